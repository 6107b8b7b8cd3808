/- Generic texts: R16 R17 R18 R19. No condition. -/
import Derived.Test.YtecdefhecaeclaaDoorN6
import Derived.ScopeJumps
import Derived.Laws.BytesArg
namespace Go.Proofs.YtecdefhecaeclaaDoor.K
open Go Go.RowKit Go.Proofs.YtecdefhecaeclaaDoor.T
attribute [local simp] eTm eCo pNo gTp gTn qv qcall vop iop
set_option linter.unusedSimpArgs false
set_option linter.unusedVariables false
set_option maxHeartbeats 2000000
def sFind:SC→Nat→Option SC
  | .seq a b,l=>match sFind a l with
    | some r=>some (.seq r b)
    | none=>sFind b l
  | .label l',l=>if l' == l then some .skip else none
  | _,_=>none
theorem sFind_strip:∀ (c:Code) (l:Nat),(findLabel c l).map strip=sFind (strip c) l
  | .seq a b,l=>by
    simp only [findLabel,strip,sFind]
    rw [← sFind_strip a l,← sFind_strip b l]
    cases findLabel a l <;> simp [strip]
  | .label l',l=>by
    simp only [findLabel,strip,sFind]
    split <;> simp [strip]
  | .region _ ops d,l=>by
    simp only [findLabel,strip]
    split <;> simp [sFind]
  | .skip,_=>rfl
  | .cond _ _ _,_=>rfl
  | .block _ _,_=>rfl
  | .loop _,_=>rfl
  | .exit _,_=>rfl
  | .ret,_=>rfl
  | .goto _,_=>rfl
  | .scope _,_=>rfl
  | .rangeFunc ..,_=>rfl
  | .refuse _,_=>rfl
theorem SC.wp_goto {P:Program} {Q:Exit→Act→World→Prop} {a:Act} {w:World} {l:Nat} (h:Q (.goto l) a w):(SC.goto l).wp P Q a w:=by
  intro c hc
  cases c <;> simp [strip] at hc
  · split at hc <;> simp at hc
  · subst hc
    exact Go.wp_goto h
theorem SC.wp_label {P:Program} {Q:Exit→Act→World→Prop} {a:Act} {w:World} {l:Nat} (h:Q .normal a w):(SC.label l).wp P Q a w:=by
  intro c hc
  cases c <;> simp [strip] at hc
  · split at hc <;> simp at hc
  · subst hc
    exact Go.wp_label h
theorem SC.wp_scope {P:Program} {Q:Exit→Act→World→Prop} {a:Act} {w:World} {x rest:SC} (l:Nat) (J:Act→World→Prop) (hf:sFind x l=some rest) (first:x.wp P (Exit.jump l J Q) a w) (pass:∀ a w,J a w→rest.wp P (Exit.noGoto Q) a w):(SC.scope x).wp P Q a w:=by
  intro c hc
  cases c <;> simp [strip] at hc
  · split at hc <;> simp at hc
  · rename_i b
    subst hc
    rw [← sFind_strip b l] at hf
    obtain ⟨r,hr,rfl⟩:=Option.map_eq_some_iff.1 hf
    refine wp_scope_jumps l J (fun _ _=>0) hr (first b rfl) fun a w hJ=>Go.wp_mono (pass a w hJ r rfl) fun e a w hq=>?_
    cases e <;> first | exact hq | exact hq.elim
def sc_KUvarint (T0 T1 T2 T3 T4:Nat):SC:=.seq (.reg [⟨some 2,.assign (.const (.int .u32 0)),none⟩,⟨some 3,.assign (.const (.int .i64 0)),none⟩]) (.scope (.seq (.reg [⟨some 4,.assign (.const (.int .u32 0)),none⟩]) (.seq (.reg [⟨some 5,.assign (.const (.int .i64 0)),none⟩]) (.seq (.seq (.reg [mv 6 0,lenOp 7 T0 6,⟨some 8,.binOp .lss T1 (.tmp 7) (.const (.int .i64 1)) T1,none⟩]) (.cond (.tmp 8) (.goto 0) (.skip))) (.seq (.reg [mv 9 0,⟨some 10,.indexAddr T0 (.tmp 9) (.const (.int .i64 0)),none⟩,ld 11 T2 10,⟨some 12,.binOp .and T2 (.tmp 11) (.const (.int .u8 127)) T2,none⟩,⟨some 13,.convert T2 T3 (.tmp 12),none⟩,asg 4 13]) (.seq (.seq (.reg [mv 14 0,⟨some 15,.indexAddr T0 (.tmp 14) (.const (.int .i64 0)),none⟩,ld 16 T2 15,⟨some 17,.binOp .and T2 (.tmp 16) (.const (.int .u8 128)) T2,none⟩,⟨some 18,.binOp .eql T2 (.tmp 17) (.const (.int .u8 0)) T2,none⟩]) (.cond (.tmp 18) (.seq (.reg [mv 19 4,asg 2 19,⟨some 3,.assign (.const (.int .i64 1)),none⟩]) (.ret)) (.seq (.reg [mv 20 0,lenOp 21 T0 20,⟨some 22,.binOp .lss T1 (.tmp 21) (.const (.int .i64 2)) T1,none⟩]) (.cond (.tmp 22) (.goto 0) (.skip))))) (.seq (.reg [mv 23 4,mv 24 0,⟨some 25,.indexAddr T0 (.tmp 24) (.const (.int .i64 1)),none⟩,ld 26 T2 25,⟨some 27,.binOp .and T2 (.tmp 26) (.const (.int .u8 127)) T2,none⟩,⟨some 28,.convert T2 T3 (.tmp 27),none⟩,⟨some 29,.binOp .shl T3 (.tmp 28) (.const (.int .u64 7)) T4,none⟩,⟨some 30,.binOp .or T3 (.tmp 23) (.tmp 29) T3,none⟩,asg 4 30]) (.seq (.seq (.reg [mv 31 0,⟨some 32,.indexAddr T0 (.tmp 31) (.const (.int .i64 1)),none⟩,ld 33 T2 32,⟨some 34,.binOp .and T2 (.tmp 33) (.const (.int .u8 128)) T2,none⟩,⟨some 35,.binOp .eql T2 (.tmp 34) (.const (.int .u8 0)) T2,none⟩]) (.cond (.tmp 35) (.seq (.reg [mv 36 4,asg 2 36,⟨some 3,.assign (.const (.int .i64 2)),none⟩]) (.ret)) (.seq (.reg [mv 37 0,lenOp 38 T0 37,⟨some 39,.binOp .lss T1 (.tmp 38) (.const (.int .i64 3)) T1,none⟩]) (.cond (.tmp 39) (.goto 0) (.skip))))) (.seq (.reg [mv 40 4,mv 41 0,⟨some 42,.indexAddr T0 (.tmp 41) (.const (.int .i64 2)),none⟩,ld 43 T2 42,⟨some 44,.binOp .and T2 (.tmp 43) (.const (.int .u8 127)) T2,none⟩,⟨some 45,.convert T2 T3 (.tmp 44),none⟩,⟨some 46,.binOp .shl T3 (.tmp 45) (.const (.int .u64 14)) T4,none⟩,⟨some 47,.binOp .or T3 (.tmp 40) (.tmp 46) T3,none⟩,asg 4 47]) (.seq (.seq (.reg [mv 48 0,⟨some 49,.indexAddr T0 (.tmp 48) (.const (.int .i64 2)),none⟩,ld 50 T2 49,⟨some 51,.binOp .and T2 (.tmp 50) (.const (.int .u8 128)) T2,none⟩,⟨some 52,.binOp .eql T2 (.tmp 51) (.const (.int .u8 0)) T2,none⟩]) (.cond (.tmp 52) (.seq (.reg [mv 53 4,asg 2 53,⟨some 3,.assign (.const (.int .i64 3)),none⟩]) (.ret)) (.seq (.reg [mv 54 0,lenOp 55 T0 54,⟨some 56,.binOp .lss T1 (.tmp 55) (.const (.int .i64 4)) T1,none⟩]) (.cond (.tmp 56) (.goto 0) (.skip))))) (.seq (.reg [mv 57 4,mv 58 0,⟨some 59,.indexAddr T0 (.tmp 58) (.const (.int .i64 3)),none⟩,ld 60 T2 59,⟨some 61,.binOp .and T2 (.tmp 60) (.const (.int .u8 127)) T2,none⟩,⟨some 62,.convert T2 T3 (.tmp 61),none⟩,⟨some 63,.binOp .shl T3 (.tmp 62) (.const (.int .u64 21)) T4,none⟩,⟨some 64,.binOp .or T3 (.tmp 57) (.tmp 63) T3,none⟩,asg 4 64]) (.seq (.seq (.reg [mv 65 0,⟨some 66,.indexAddr T0 (.tmp 65) (.const (.int .i64 3)),none⟩,ld 67 T2 66,⟨some 68,.binOp .and T2 (.tmp 67) (.const (.int .u8 128)) T2,none⟩,⟨some 69,.binOp .eql T2 (.tmp 68) (.const (.int .u8 0)) T2,none⟩]) (.cond (.tmp 69) (.seq (.reg [mv 70 4,asg 2 70,⟨some 3,.assign (.const (.int .i64 4)),none⟩]) (.ret)) (.seq (.reg [mv 71 0,lenOp 72 T0 71,⟨some 73,.binOp .lss T1 (.tmp 72) (.const (.int .i64 5)) T1,none⟩]) (.cond (.tmp 73) (.goto 0) (.skip))))) (.seq (.reg [mv 74 4,mv 75 0,⟨some 76,.indexAddr T0 (.tmp 75) (.const (.int .i64 4)),none⟩,ld 77 T2 76,⟨some 78,.convert T2 T3 (.tmp 77),none⟩,⟨some 79,.binOp .shl T3 (.tmp 78) (.const (.int .u64 28)) T4,none⟩,⟨some 80,.binOp .or T3 (.tmp 74) (.tmp 79) T3,none⟩,asg 4 80]) (.seq (.seq (.reg [mv 81 0,⟨some 82,.indexAddr T0 (.tmp 81) (.const (.int .i64 4)),none⟩,ld 83 T2 82,⟨some 84,.binOp .leq T2 (.tmp 83) (.const (.int .u8 15)) T2,none⟩]) (.cond (.tmp 84) (.seq (.reg [mv 85 4,asg 2 85,⟨some 3,.assign (.const (.int .i64 5)),none⟩]) (.ret)) (.skip))) (.seq (.reg [⟨some 5,.assign (.const (.int .i64 (-5))),none⟩]) (.seq (.label 0) (.seq (.reg [mv 86 5,⟨some 2,.assign (.const (.int .u32 0)),none⟩,asg 3 86]) (.ret))))))))))))))))))
theorem and127 {u:Nat} (h:u < 256):IntKind.u8.wrap ((BitVec.ofInt IntKind.u8.bits (u:Int) &&& BitVec.ofInt IntKind.u8.bits 127).toNat:Int)=((u % 128:Nat):Int):=by
  have e1:(BitVec.ofInt IntKind.u8.bits (u:Int)).toNat=u:=by
    rw [BitVec.ofInt_natCast,BitVec.toNat_ofNat]
    exact Nat.mod_eq_of_lt h
  have e2:(BitVec.ofInt IntKind.u8.bits 127).toNat=2 ^ 7 - 1:=by decide
  rw [BitVec.toNat_and,e1,e2,Nat.and_two_pow_sub_one_eq_mod]
  exact wrap_uN (k:=.u8) rfl (by simp only [IntKind.bits];omega)
set_option maxRecDepth 100000 in
theorem and128n:∀ n,n < 256→n &&& 128=if n < 128 then 0 else 128:=by decide
theorem and128 {u:Nat} (h:u < 256):IntKind.u8.wrap ((BitVec.ofInt IntKind.u8.bits (u:Int) &&& BitVec.ofInt IntKind.u8.bits 128).toNat:Int)=if u < 128 then 0 else 128:=by
  have e1:(BitVec.ofInt IntKind.u8.bits (u:Int)).toNat=u:=by
    rw [BitVec.ofInt_natCast,BitVec.toNat_ofNat]
    exact Nat.mod_eq_of_lt h
  have e2:(BitVec.ofInt IntKind.u8.bits 128).toNat=128:=by decide
  rw [BitVec.toNat_and,e1,e2]
  rw [and128n u h]
  split <;> decide
def UvC (P:Program) (F:Nat):Prop:=FnOK P F∧∀ (w:World) (S:Option Nat) (base:Option Addr) (rest:Bytes) (cap:Nat),SrcAt w S base rest →
  Calls P F #[.slice base rest.length cap] w fun e w'=>w'=w∧∃ (x:Nat) (n:Int),e=.returned (.tuple #[.int .u32 (x:Int),.int .i64 n]) ∧
    match pUv rest with
    | some (y,r)=>x=y∧n=((rest.length - r.length:Nat):Int)∧0 < n∧r=rest.drop (rest.length - r.length)
    | none=>x=0∧n≤0
section
variable {P:Program} {R:RTy} {f:FuncId} {fn:Func}
theorem uvC {T3 T4 : Nat} (hR : rdOK P R = true) (hi3 : intK P T3 = some .u32) (hf : P.funcs[f]? = some fn) (hb : fn.body.map strip = some (sc_KUvarint R.TB R.I R.U8 T3 T4)) (hnm : (fn.name == "runtime.NumGoroutine") = false) (hn : fn.ntmps = 87) (hr : fn.results = #[.tmp 2, .tmp 3]) : UvC P f := by
  have hst:=rd_facts hR
  refine ⟨fnOK_of hf hb hnm,fun w S base rest cap hsr=>?_⟩
  refine fCa hf hb hn (by simp) fun a0 hs hd ha=>?_
  have h0:=ha 0 _ rfl
  simp only [List.getElem_toArray,List.getElem_cons_zero,List.getElem_cons_succ] at h0
  have fin:∀ (a:Act) (x:Nat) (n:Int),a.defers=[]→getT a 2=.int .u32 (x:Int)→getT a 3=.int .i64 n→(match pUv rest with | some (y,r)=>x=y∧n=((rest.length - r.length:Nat):Int)∧0 < n∧r=rest.drop (rest.length - r.length) | none=>x=0∧n≤0) →
      bodyPost P fn (fun e w'=>w'=w∧∃ (x:Nat) (n:Int),e=.returned (.tuple #[.int .u32 (x:Int),.int .i64 n])∧match pUv rest with | some (y,r)=>x=y∧n=((rest.length - r.length:Nat):Int)∧0 < n∧r=rest.drop (rest.length - r.length) | none=>x=0∧n≤0) .ret a w:=by
    intro a x n q1 q2 q3 q4
    refine bodyPost_ret_by (v:=.tuple #[.int .u32 (x:Int),.int .i64 n]) ?_ q1 ⟨rfl,x,n,rfl,q4⟩
    have e2:a.tmps.getD 2 undef=.int .u32 (x:Int):=q2
    have e3:a.tmps.getD 3 undef=.int .i64 n:=q3
    simp only [Array.getD_eq_getD_getElem?] at e2 e3
    simp [results,hr,e2,e3]
  refine SC.wp_seq (SC.wp_reg ?_)
  repeat (apply ops_1;(focus (simp (disch:=(try simp only [sPu]);omega) ;try rfl)))
  refine oNi ?_
  simp only [Exit.then]
  refine SC.wp_scope 0 (fun a w'=>a.tmps.size=87∧a.defers=[]∧(∃ n:Int,n≤0∧getT a 5=.int .i64 n)∧w'=w∧pUv rest=none) rfl ?_ ?_
  rotate_left 1
  · rintro a w' ⟨z1,z2,⟨n,z3,z4⟩,rfl,z5⟩
    refine SC.wp_seq (SC.wp_skip ?_)
    simp only [Exit.then]
    refine SC.wp_seq (SC.wp_reg ?_)
    repeat (apply ops_1;(focus (simp (disch:=(try simp only [sPu]);omega) [z4];try rfl)))
    refine oNi ?_
    simp only [Exit.then]
    refine SC.wp_ret ?_
    simp only [Exit.noGoto]
    exact fin _ 0 n (by simp [dPu,z2]) (by simp (disch:=(try simp only [sPu]);omega)) (by simp (disch:=(try simp only [sPu]);omega)) (by rw [z5];exact ⟨rfl,z3⟩)
  refine SC.wp_seq (SC.wp_reg ?_)
  repeat (apply ops_1;(focus (simp (disch:=(try simp only [sPu]);omega) ;try rfl)))
  refine oNi ?_
  simp only [Exit.then]
  refine SC.wp_seq (SC.wp_reg ?_)
  repeat (apply ops_1;(focus (simp (disch:=(try simp only [sPu]);omega) ;try rfl)))
  refine oNi ?_
  simp only [Exit.then]
  refine SC.wp_seq (SC.wp_seq (SC.wp_reg ?_))
  repeat (apply ops_1;(focus (simp (disch:=(try simp only [sPu]);omega) [hst,h0];try rfl)))
  refine oNi ?_
  simp only [Exit.then]
  refine SC.wp_cond (t:=decide ((rest.length:Int) < 1)) (by simp (disch:=(try simp only [sPu]);omega)) ?_
  cases rest with
  | nil =>
    rw [if_pos (by simp)]
    refine SC.wp_goto ?_
    simp only [Exit.then,Exit.jump]
    exact ⟨trivial,by simp [sPu,hs],by simp [dPu,hd],⟨0,by decide,by simp (disch:=(try simp only [sPu]);omega)⟩,trivial,rfl⟩
  | cons u0 r0 =>
  rw [if_neg (by simp;omega)]
  refine SC.wp_skip ?_
  simp only [Exit.then]
  obtain ⟨sb,q,rfl,rfl,hby⟩:=src_head hsr (k:=(u0 :: r0).length) (Nat.le_refl _) (by simp)
  rw [List.take_length] at hby
  have l0:0 < (u0 :: r0).length:=by simp
  have c0:=hby 0 u0 rfl
  simp only [cell,Nat.add_zero] at c0
  have b0:=u0.toNat_lt
  have a0:=and127 (u:=u0.toNat) b0
  have z0:=and128 (u:=u0.toNat) b0
  have k0:=wrap_uN (k:=.u32) rfl (n:=u0.toNat % 128) (by simp only [IntKind.bits];omega)
  refine SC.wp_seq (SC.wp_reg ?_)
  repeat (apply ops_1;(focus (simp (disch:=(try simp only [sPu]);omega) [hst,hi3,h0,l0,c0,a0,k0,-Int.natCast_emod,-List.length_cons,-BitVec.toNat_or,-BitVec.ofInt_natCast,-BitVec.ofInt_ofNat,-BitVec.toNat_ofInt,-BitVec.toNat_ofNat,-BitVec.toNat_and];try rfl)))
  refine oNi ?_
  simp only [Exit.then]
  refine gen_act (fun a=>a.tmps.size=87∧a.defers=[]∧getT a 0=.slice (some ⟨sb,q,none⟩) (u0 :: r0).length cap∧getT a 5=.int .i64 0∧getT a 4=.int .u32 (((u0.toNat % 128:Nat):Int))) ⟨by simp [sPu,hs],by simp [dPu,hd],by simp (disch:=(try simp only [sPu]);omega) [h0],by simp (disch:=(try simp only [sPu]);omega),by simp (disch:=(try simp only [sPu]);omega) [-Int.natCast_emod,-List.length_cons,-BitVec.toNat_or,-BitVec.ofInt_natCast,-BitVec.ofInt_ofNat,-BitVec.toNat_ofInt,-BitVec.toNat_ofNat,-BitVec.toNat_and]⟩ fun a1 ⟨p0s,p0d,p00,p05,x0⟩=>?_
  refine SC.wp_seq (SC.wp_seq (SC.wp_reg ?_))
  repeat (apply ops_1;(focus (simp (disch:=(try simp only [sPu]);omega) [hst,p00,l0,c0,z0,-List.length_cons,-BitVec.toNat_or,-BitVec.ofInt_natCast,-BitVec.ofInt_ofNat,-BitVec.toNat_ofInt,-BitVec.toNat_ofNat,-BitVec.toNat_and];try rfl)))
  refine oNi ?_
  simp only [Exit.then]
  refine SC.wp_cond (t:=decide (u0.toNat < 128)) (by
    simp (disch:=(try simp only [sPu]);omega) [-List.length_cons,-BitVec.toNat_or,-BitVec.ofInt_natCast,-BitVec.ofInt_ofNat,-BitVec.toNat_ofInt,-BitVec.toNat_ofNat,-BitVec.toNat_and]
    split <;> simp_all) ?_
  by_cases hu0:u0.toNat < 128
  · rw [if_pos (by simpa using hu0)]
    refine SC.wp_seq (SC.wp_reg ?_)
    repeat (apply ops_1;(focus (simp (disch:=(try simp only [sPu]);omega) [x0];try rfl)))
    refine oNi ?_
    simp only [Exit.then]
    refine SC.wp_ret ?_
    simp only [Exit.then,Exit.jump]
    refine fin _ (u0.toNat % 128) 1 (by simp [dPu,p0d]) (by simp (disch:=(try simp only [sPu]);omega) [-Int.natCast_emod,-List.length_cons,-BitVec.toNat_or,-BitVec.ofInt_natCast,-BitVec.ofInt_ofNat,-BitVec.toNat_ofInt,-BitVec.toNat_ofNat,-BitVec.toNat_and];try omega) (by simp (disch:=(try simp only [sPu]);omega)) ?_
    have hp:pUv (u0 :: r0)=some (u0.toNat % 128,r0):=by
      simp only [pUv,pUvGo,hu0,if_true,if_false,Option.map_some,Option.some.injEq,Prod.mk.injEq,and_true]
      omega
    rw [hp]
    refine ⟨rfl,?_,by decide,?_⟩
    · simp only [List.length_cons]
      omega
    · rw [show (u0 :: r0).length - r0.length=1 by simp only [List.length_cons];omega]
      rfl
  · rw [if_neg (by simpa using hu0)]
    refine SC.wp_seq (SC.wp_reg ?_)
    repeat (apply ops_1;(focus (simp (disch:=(try simp only [sPu]);omega) [hst,p00];try rfl)))
    refine oNi ?_
    simp only [Exit.then]
    refine SC.wp_cond (t:=decide (((u0 :: r0).length:Int) < 2)) (by simp (disch:=(try simp only [sPu]);omega)) ?_
    cases r0 with
    | nil =>
      rw [if_pos (by simp)]
      refine SC.wp_goto ?_
      simp only [Exit.then,Exit.jump]
      refine ⟨trivial,by simp [sPu,p0s],by simp [dPu,p0d],⟨0,by decide,by simp (disch:=(try simp only [sPu]);omega) [p05]⟩,trivial,?_⟩
      simp [pUv,pUvGo,hu0]
    | cons u1 r1 =>
    rw [if_neg (by simp;omega)]
    refine SC.wp_skip ?_
    simp only [Exit.then]
    refine gen_act (fun a=>a.tmps.size=87∧a.defers=[]∧getT a 0=.slice (some ⟨sb,q,none⟩) (u0 :: u1 :: r1).length cap∧getT a 5=.int .i64 0∧getT a 4=.int .u32 (((u0.toNat % 128:Nat):Int))) ⟨by simp [sPu,p0s],by simp [dPu,p0d],by simp (disch:=(try simp only [sPu]);omega) [p00],by simp (disch:=(try simp only [sPu]);omega) [p05],by simp (disch:=(try simp only [sPu]);omega) [x0,-Int.natCast_emod]⟩ ?_
    clear p0s p0d p00 p05 x0
    intro a1 ⟨p0s,p0d,h0,p05,x0⟩
    have l1:(1:Int) < ((u0 :: u1 :: r1).length:Int):=by simp only [List.length_cons];omega
    have c1:=hby 1 u1 rfl
    simp only [cell,Nat.add_zero] at c1
    have b1:=u1.toNat_lt
    have a1:=and127 (u:=u1.toNat) b1
    have z1:=and128 (u:=u1.toNat) b1
    have k1:=wrap_uN (k:=.u32) rfl (n:=u1.toNat % 128) (by simp only [IntKind.bits];omega)
    have s1:IntKind.u32.wrap (((u1.toNat % 128:Nat):Int) * 128)=((u1.toNat % 128:Nat):Int) * 128:=by
      have:=wrap_uN (k:=.u32) rfl (n:=u1.toNat % 128 * 128) (by simp only [IntKind.bits];omega)
      simpa using this
    have o1:IntKind.u32.wrap ((BitVec.ofInt IntKind.u32.bits (((u0.toNat % 128:Nat):Int)) ||| BitVec.ofInt IntKind.u32.bits (((u1.toNat % 128:Nat):Int) * 128)).toNat:Int)=((u0.toNat % 128:Nat):Int)+((u1.toNat % 128:Nat):Int) * 128:=by
      rw [or_add2 (a:=u0.toNat % 128) (b:=u1.toNat % 128) (s:=7) (by omega) (by omega) (by omega) (by simp only [IntKind.bits];omega),wrap_uN (k:=.u32) rfl (n:=u0.toNat % 128+u1.toNat % 128 * 2 ^ 7) (by simp only [IntKind.bits];omega)]
      omega
    have e1:7≤IntKind.u32.bits:=by decide
    refine SC.wp_seq (SC.wp_reg ?_)
    repeat (apply ops_1;(focus (simp (disch:=(try simp only [sPu]);omega) [hst,hi3,h0,l1,c1,a1,k1,s1,o1,e1,x0,-Int.natCast_emod,-List.length_cons,-BitVec.toNat_or,-BitVec.ofInt_natCast,-BitVec.ofInt_ofNat,-BitVec.toNat_ofInt,-BitVec.toNat_ofNat,-BitVec.toNat_and];try rfl)))
    refine oNi ?_
    simp only [Exit.then]
    refine gen_act (fun a=>a.tmps.size=87∧a.defers=[]∧getT a 0=.slice (some ⟨sb,q,none⟩) (u0 :: u1 :: r1).length cap∧getT a 5=.int .i64 0∧getT a 4=.int .u32 (((u0.toNat % 128:Nat):Int)+((u1.toNat % 128:Nat):Int) * 128)) ⟨by simp [sPu,p0s],by simp [dPu,p0d],by simp (disch:=(try simp only [sPu]);omega) [h0],by simp (disch:=(try simp only [sPu]);omega) [p05],by simp (disch:=(try simp only [sPu]);omega) [-Int.natCast_emod,-List.length_cons,-BitVec.toNat_or,-BitVec.ofInt_natCast,-BitVec.ofInt_ofNat,-BitVec.toNat_ofInt,-BitVec.toNat_ofNat,-BitVec.toNat_and]⟩ fun a2 ⟨p1s,p1d,p10,p15,x1⟩=>?_
    refine SC.wp_seq (SC.wp_seq (SC.wp_reg ?_))
    repeat (apply ops_1;(focus (simp (disch:=(try simp only [sPu]);omega) [hst,p10,l1,c1,z1,-List.length_cons,-BitVec.toNat_or,-BitVec.ofInt_natCast,-BitVec.ofInt_ofNat,-BitVec.toNat_ofInt,-BitVec.toNat_ofNat,-BitVec.toNat_and];try rfl)))
    refine oNi ?_
    simp only [Exit.then]
    refine SC.wp_cond (t:=decide (u1.toNat < 128)) (by
      simp (disch:=(try simp only [sPu]);omega) [-List.length_cons,-BitVec.toNat_or,-BitVec.ofInt_natCast,-BitVec.ofInt_ofNat,-BitVec.toNat_ofInt,-BitVec.toNat_ofNat,-BitVec.toNat_and]
      split <;> simp_all) ?_
    by_cases hu1:u1.toNat < 128
    · rw [if_pos (by simpa using hu1)]
      refine SC.wp_seq (SC.wp_reg ?_)
      repeat (apply ops_1;(focus (simp (disch:=(try simp only [sPu]);omega) [x1];try rfl)))
      refine oNi ?_
      simp only [Exit.then]
      refine SC.wp_ret ?_
      simp only [Exit.then,Exit.jump]
      refine fin _ (u0.toNat % 128+u1.toNat % 128 * 128) 2 (by simp [dPu,p1d]) (by simp (disch:=(try simp only [sPu]);omega) [-Int.natCast_emod,-List.length_cons,-BitVec.toNat_or,-BitVec.ofInt_natCast,-BitVec.ofInt_ofNat,-BitVec.toNat_ofInt,-BitVec.toNat_ofNat,-BitVec.toNat_and];try omega) (by simp (disch:=(try simp only [sPu]);omega)) ?_
      have hp:pUv (u0 :: u1 :: r1)=some (u0.toNat % 128+u1.toNat % 128 * 128,r1):=by
        simp only [pUv,pUvGo,hu0,hu1,if_true,if_false,Option.map_some,Option.some.injEq,Prod.mk.injEq,and_true]
        omega
      rw [hp]
      refine ⟨rfl,?_,by decide,?_⟩
      · simp only [List.length_cons]
        omega
      · rw [show (u0 :: u1 :: r1).length - r1.length=2 by simp only [List.length_cons];omega]
        rfl
    · rw [if_neg (by simpa using hu1)]
      refine SC.wp_seq (SC.wp_reg ?_)
      repeat (apply ops_1;(focus (simp (disch:=(try simp only [sPu]);omega) [hst,p10];try rfl)))
      refine oNi ?_
      simp only [Exit.then]
      refine SC.wp_cond (t:=decide (((u0 :: u1 :: r1).length:Int) < 3)) (by simp (disch:=(try simp only [sPu]);omega)) ?_
      cases r1 with
      | nil =>
        rw [if_pos (by simp)]
        refine SC.wp_goto ?_
        simp only [Exit.then,Exit.jump]
        refine ⟨trivial,by simp [sPu,p1s],by simp [dPu,p1d],⟨0,by decide,by simp (disch:=(try simp only [sPu]);omega) [p15]⟩,trivial,?_⟩
        simp [pUv,pUvGo,hu0,hu1]
      | cons u2 r2 =>
      rw [if_neg (by simp;omega)]
      refine SC.wp_skip ?_
      simp only [Exit.then]
      refine gen_act (fun a=>a.tmps.size=87∧a.defers=[]∧getT a 0=.slice (some ⟨sb,q,none⟩) (u0 :: u1 :: u2 :: r2).length cap∧getT a 5=.int .i64 0∧getT a 4=.int .u32 (((u0.toNat % 128:Nat):Int)+((u1.toNat % 128:Nat):Int) * 128)) ⟨by simp [sPu,p1s],by simp [dPu,p1d],by simp (disch:=(try simp only [sPu]);omega) [p10],by simp (disch:=(try simp only [sPu]);omega) [p15],by simp (disch:=(try simp only [sPu]);omega) [x1,-Int.natCast_emod]⟩ ?_
      clear p1s p1d p10 p15 x1
      intro a2 ⟨p1s,p1d,h0,p15,x1⟩
      have l2:(2:Int) < ((u0 :: u1 :: u2 :: r2).length:Int):=by simp only [List.length_cons];omega
      have c2:=hby 2 u2 rfl
      simp only [cell,Nat.add_zero] at c2
      have b2:=u2.toNat_lt
      have a2:=and127 (u:=u2.toNat) b2
      have z2:=and128 (u:=u2.toNat) b2
      have k2:=wrap_uN (k:=.u32) rfl (n:=u2.toNat % 128) (by simp only [IntKind.bits];omega)
      have s2:IntKind.u32.wrap (((u2.toNat % 128:Nat):Int) * 16384)=((u2.toNat % 128:Nat):Int) * 16384:=by
        have:=wrap_uN (k:=.u32) rfl (n:=u2.toNat % 128 * 16384) (by simp only [IntKind.bits];omega)
        simpa using this
      have o2:IntKind.u32.wrap ((BitVec.ofInt IntKind.u32.bits (((u0.toNat % 128:Nat):Int)+((u1.toNat % 128:Nat):Int) * 128) ||| BitVec.ofInt IntKind.u32.bits (((u2.toNat % 128:Nat):Int) * 16384)).toNat:Int)=((u0.toNat % 128:Nat):Int)+((u1.toNat % 128:Nat):Int) * 128+((u2.toNat % 128:Nat):Int) * 16384:=by
        rw [or_add2 (a:=u0.toNat % 128+u1.toNat % 128 * 128) (b:=u2.toNat % 128) (s:=14) (by omega) (by omega) (by omega) (by simp only [IntKind.bits];omega),wrap_uN (k:=.u32) rfl (n:=u0.toNat % 128+u1.toNat % 128 * 128+u2.toNat % 128 * 2 ^ 14) (by simp only [IntKind.bits];omega)]
        omega
      have e2:14≤IntKind.u32.bits:=by decide
      refine SC.wp_seq (SC.wp_reg ?_)
      repeat (apply ops_1;(focus (simp (disch:=(try simp only [sPu]);omega) [hst,hi3,h0,l2,c2,a2,k2,s2,o2,e2,x1,-Int.natCast_emod,-List.length_cons,-BitVec.toNat_or,-BitVec.ofInt_natCast,-BitVec.ofInt_ofNat,-BitVec.toNat_ofInt,-BitVec.toNat_ofNat,-BitVec.toNat_and];try rfl)))
      refine oNi ?_
      simp only [Exit.then]
      refine gen_act (fun a=>a.tmps.size=87∧a.defers=[]∧getT a 0=.slice (some ⟨sb,q,none⟩) (u0 :: u1 :: u2 :: r2).length cap∧getT a 5=.int .i64 0∧getT a 4=.int .u32 (((u0.toNat % 128:Nat):Int)+((u1.toNat % 128:Nat):Int) * 128+((u2.toNat % 128:Nat):Int) * 16384)) ⟨by simp [sPu,p1s],by simp [dPu,p1d],by simp (disch:=(try simp only [sPu]);omega) [h0],by simp (disch:=(try simp only [sPu]);omega) [p15],by simp (disch:=(try simp only [sPu]);omega) [-Int.natCast_emod,-List.length_cons,-BitVec.toNat_or,-BitVec.ofInt_natCast,-BitVec.ofInt_ofNat,-BitVec.toNat_ofInt,-BitVec.toNat_ofNat,-BitVec.toNat_and]⟩ fun a3 ⟨p2s,p2d,p20,p25,x2⟩=>?_
      refine SC.wp_seq (SC.wp_seq (SC.wp_reg ?_))
      repeat (apply ops_1;(focus (simp (disch:=(try simp only [sPu]);omega) [hst,p20,l2,c2,z2,-List.length_cons,-BitVec.toNat_or,-BitVec.ofInt_natCast,-BitVec.ofInt_ofNat,-BitVec.toNat_ofInt,-BitVec.toNat_ofNat,-BitVec.toNat_and];try rfl)))
      refine oNi ?_
      simp only [Exit.then]
      refine SC.wp_cond (t:=decide (u2.toNat < 128)) (by
        simp (disch:=(try simp only [sPu]);omega) [-List.length_cons,-BitVec.toNat_or,-BitVec.ofInt_natCast,-BitVec.ofInt_ofNat,-BitVec.toNat_ofInt,-BitVec.toNat_ofNat,-BitVec.toNat_and]
        split <;> simp_all) ?_
      by_cases hu2:u2.toNat < 128
      · rw [if_pos (by simpa using hu2)]
        refine SC.wp_seq (SC.wp_reg ?_)
        repeat (apply ops_1;(focus (simp (disch:=(try simp only [sPu]);omega) [x2];try rfl)))
        refine oNi ?_
        simp only [Exit.then]
        refine SC.wp_ret ?_
        simp only [Exit.then,Exit.jump]
        refine fin _ (u0.toNat % 128+u1.toNat % 128 * 128+u2.toNat % 128 * 16384) 3 (by simp [dPu,p2d]) (by simp (disch:=(try simp only [sPu]);omega) [-Int.natCast_emod,-List.length_cons,-BitVec.toNat_or,-BitVec.ofInt_natCast,-BitVec.ofInt_ofNat,-BitVec.toNat_ofInt,-BitVec.toNat_ofNat,-BitVec.toNat_and];try omega) (by simp (disch:=(try simp only [sPu]);omega)) ?_
        have hp:pUv (u0 :: u1 :: u2 :: r2)=some (u0.toNat % 128+u1.toNat % 128 * 128+u2.toNat % 128 * 16384,r2):=by
          simp only [pUv,pUvGo,hu0,hu1,hu2,if_true,if_false,Option.map_some,Option.some.injEq,Prod.mk.injEq,and_true]
          omega
        rw [hp]
        refine ⟨rfl,?_,by decide,?_⟩
        · simp only [List.length_cons]
          omega
        · rw [show (u0 :: u1 :: u2 :: r2).length - r2.length=3 by simp only [List.length_cons];omega]
          rfl
      · rw [if_neg (by simpa using hu2)]
        refine SC.wp_seq (SC.wp_reg ?_)
        repeat (apply ops_1;(focus (simp (disch:=(try simp only [sPu]);omega) [hst,p20];try rfl)))
        refine oNi ?_
        simp only [Exit.then]
        refine SC.wp_cond (t:=decide (((u0 :: u1 :: u2 :: r2).length:Int) < 4)) (by simp (disch:=(try simp only [sPu]);omega)) ?_
        cases r2 with
        | nil =>
          rw [if_pos (by simp)]
          refine SC.wp_goto ?_
          simp only [Exit.then,Exit.jump]
          refine ⟨trivial,by simp [sPu,p2s],by simp [dPu,p2d],⟨0,by decide,by simp (disch:=(try simp only [sPu]);omega) [p25]⟩,trivial,?_⟩
          simp [pUv,pUvGo,hu0,hu1,hu2]
        | cons u3 r3 =>
        rw [if_neg (by simp;omega)]
        refine SC.wp_skip ?_
        simp only [Exit.then]
        refine gen_act (fun a=>a.tmps.size=87∧a.defers=[]∧getT a 0=.slice (some ⟨sb,q,none⟩) (u0 :: u1 :: u2 :: u3 :: r3).length cap∧getT a 5=.int .i64 0∧getT a 4=.int .u32 (((u0.toNat % 128:Nat):Int)+((u1.toNat % 128:Nat):Int) * 128+((u2.toNat % 128:Nat):Int) * 16384)) ⟨by simp [sPu,p2s],by simp [dPu,p2d],by simp (disch:=(try simp only [sPu]);omega) [p20],by simp (disch:=(try simp only [sPu]);omega) [p25],by simp (disch:=(try simp only [sPu]);omega) [x2,-Int.natCast_emod]⟩ ?_
        clear p2s p2d p20 p25 x2
        intro a3 ⟨p2s,p2d,h0,p25,x2⟩
        have l3:(3:Int) < ((u0 :: u1 :: u2 :: u3 :: r3).length:Int):=by simp only [List.length_cons];omega
        have c3:=hby 3 u3 rfl
        simp only [cell,Nat.add_zero] at c3
        have b3:=u3.toNat_lt
        have a3:=and127 (u:=u3.toNat) b3
        have z3:=and128 (u:=u3.toNat) b3
        have k3:=wrap_uN (k:=.u32) rfl (n:=u3.toNat % 128) (by simp only [IntKind.bits];omega)
        have s3:IntKind.u32.wrap (((u3.toNat % 128:Nat):Int) * 2097152)=((u3.toNat % 128:Nat):Int) * 2097152:=by
          have:=wrap_uN (k:=.u32) rfl (n:=u3.toNat % 128 * 2097152) (by simp only [IntKind.bits];omega)
          simpa using this
        have o3:IntKind.u32.wrap ((BitVec.ofInt IntKind.u32.bits (((u0.toNat % 128:Nat):Int)+((u1.toNat % 128:Nat):Int) * 128+((u2.toNat % 128:Nat):Int) * 16384) ||| BitVec.ofInt IntKind.u32.bits (((u3.toNat % 128:Nat):Int) * 2097152)).toNat:Int)=((u0.toNat % 128:Nat):Int)+((u1.toNat % 128:Nat):Int) * 128+((u2.toNat % 128:Nat):Int) * 16384+((u3.toNat % 128:Nat):Int) * 2097152:=by
          rw [or_add2 (a:=u0.toNat % 128+u1.toNat % 128 * 128+u2.toNat % 128 * 16384) (b:=u3.toNat % 128) (s:=21) (by omega) (by omega) (by omega) (by simp only [IntKind.bits];omega),wrap_uN (k:=.u32) rfl (n:=u0.toNat % 128+u1.toNat % 128 * 128+u2.toNat % 128 * 16384+u3.toNat % 128 * 2 ^ 21) (by simp only [IntKind.bits];omega)]
          omega
        have e3:21≤IntKind.u32.bits:=by decide
        refine SC.wp_seq (SC.wp_reg ?_)
        repeat (apply ops_1;(focus (simp (disch:=(try simp only [sPu]);omega) [hst,hi3,h0,l3,c3,a3,k3,s3,o3,e3,x2,-Int.natCast_emod,-List.length_cons,-BitVec.toNat_or,-BitVec.ofInt_natCast,-BitVec.ofInt_ofNat,-BitVec.toNat_ofInt,-BitVec.toNat_ofNat,-BitVec.toNat_and];try rfl)))
        refine oNi ?_
        simp only [Exit.then]
        refine gen_act (fun a=>a.tmps.size=87∧a.defers=[]∧getT a 0=.slice (some ⟨sb,q,none⟩) (u0 :: u1 :: u2 :: u3 :: r3).length cap∧getT a 5=.int .i64 0∧getT a 4=.int .u32 (((u0.toNat % 128:Nat):Int)+((u1.toNat % 128:Nat):Int) * 128+((u2.toNat % 128:Nat):Int) * 16384+((u3.toNat % 128:Nat):Int) * 2097152)) ⟨by simp [sPu,p2s],by simp [dPu,p2d],by simp (disch:=(try simp only [sPu]);omega) [h0],by simp (disch:=(try simp only [sPu]);omega) [p25],by simp (disch:=(try simp only [sPu]);omega) [-Int.natCast_emod,-List.length_cons,-BitVec.toNat_or,-BitVec.ofInt_natCast,-BitVec.ofInt_ofNat,-BitVec.toNat_ofInt,-BitVec.toNat_ofNat,-BitVec.toNat_and]⟩ fun a4 ⟨p3s,p3d,p30,p35,x3⟩=>?_
        refine SC.wp_seq (SC.wp_seq (SC.wp_reg ?_))
        repeat (apply ops_1;(focus (simp (disch:=(try simp only [sPu]);omega) [hst,p30,l3,c3,z3,-List.length_cons,-BitVec.toNat_or,-BitVec.ofInt_natCast,-BitVec.ofInt_ofNat,-BitVec.toNat_ofInt,-BitVec.toNat_ofNat,-BitVec.toNat_and];try rfl)))
        refine oNi ?_
        simp only [Exit.then]
        refine SC.wp_cond (t:=decide (u3.toNat < 128)) (by
          simp (disch:=(try simp only [sPu]);omega) [-List.length_cons,-BitVec.toNat_or,-BitVec.ofInt_natCast,-BitVec.ofInt_ofNat,-BitVec.toNat_ofInt,-BitVec.toNat_ofNat,-BitVec.toNat_and]
          split <;> simp_all) ?_
        by_cases hu3:u3.toNat < 128
        · rw [if_pos (by simpa using hu3)]
          refine SC.wp_seq (SC.wp_reg ?_)
          repeat (apply ops_1;(focus (simp (disch:=(try simp only [sPu]);omega) [x3];try rfl)))
          refine oNi ?_
          simp only [Exit.then]
          refine SC.wp_ret ?_
          simp only [Exit.then,Exit.jump]
          refine fin _ (u0.toNat % 128+u1.toNat % 128 * 128+u2.toNat % 128 * 16384+u3.toNat % 128 * 2097152) 4 (by simp [dPu,p3d]) (by simp (disch:=(try simp only [sPu]);omega) [-Int.natCast_emod,-List.length_cons,-BitVec.toNat_or,-BitVec.ofInt_natCast,-BitVec.ofInt_ofNat,-BitVec.toNat_ofInt,-BitVec.toNat_ofNat,-BitVec.toNat_and];try omega) (by simp (disch:=(try simp only [sPu]);omega)) ?_
          have hp:pUv (u0 :: u1 :: u2 :: u3 :: r3)=some (u0.toNat % 128+u1.toNat % 128 * 128+u2.toNat % 128 * 16384+u3.toNat % 128 * 2097152,r3):=by
            simp only [pUv,pUvGo,hu0,hu1,hu2,hu3,if_true,if_false,Option.map_some,Option.some.injEq,Prod.mk.injEq,and_true]
            omega
          rw [hp]
          refine ⟨rfl,?_,by decide,?_⟩
          · simp only [List.length_cons]
            omega
          · rw [show (u0 :: u1 :: u2 :: u3 :: r3).length - r3.length=4 by simp only [List.length_cons];omega]
            rfl
        · rw [if_neg (by simpa using hu3)]
          refine SC.wp_seq (SC.wp_reg ?_)
          repeat (apply ops_1;(focus (simp (disch:=(try simp only [sPu]);omega) [hst,p30];try rfl)))
          refine oNi ?_
          simp only [Exit.then]
          refine SC.wp_cond (t:=decide (((u0 :: u1 :: u2 :: u3 :: r3).length:Int) < 5)) (by simp (disch:=(try simp only [sPu]);omega)) ?_
          cases r3 with
          | nil =>
            rw [if_pos (by simp)]
            refine SC.wp_goto ?_
            simp only [Exit.then,Exit.jump]
            refine ⟨trivial,by simp [sPu,p3s],by simp [dPu,p3d],⟨0,by decide,by simp (disch:=(try simp only [sPu]);omega) [p35]⟩,trivial,?_⟩
            simp [pUv,pUvGo,hu0,hu1,hu2,hu3]
          | cons u4 r4 =>
          rw [if_neg (by simp;omega)]
          refine SC.wp_skip ?_
          simp only [Exit.then]
          refine gen_act (fun a=>a.tmps.size=87∧a.defers=[]∧getT a 0=.slice (some ⟨sb,q,none⟩) (u0 :: u1 :: u2 :: u3 :: u4 :: r4).length cap∧getT a 5=.int .i64 0∧getT a 4=.int .u32 (((u0.toNat % 128:Nat):Int)+((u1.toNat % 128:Nat):Int) * 128+((u2.toNat % 128:Nat):Int) * 16384+((u3.toNat % 128:Nat):Int) * 2097152)) ⟨by simp [sPu,p3s],by simp [dPu,p3d],by simp (disch:=(try simp only [sPu]);omega) [p30],by simp (disch:=(try simp only [sPu]);omega) [p35],by simp (disch:=(try simp only [sPu]);omega) [x3,-Int.natCast_emod]⟩ ?_
          clear p3s p3d p30 p35 x3
          intro a4 ⟨p3s,p3d,h0,p35,x3⟩
          have l4:(4:Int) < ((u0 :: u1 :: u2 :: u3 :: u4 :: r4).length:Int):=by simp only [List.length_cons];omega
          have c4:=hby 4 u4 rfl
          simp only [cell,Nat.add_zero] at c4
          have b4:=u4.toNat_lt
          have k4:=wrap_uN (k:=.u32) rfl (n:=u4.toNat) (by simp only [IntKind.bits];omega)
          have e4:28≤IntKind.u32.bits:=by decide
          by_cases hu4:u4.toNat≤15
          · have s4:IntKind.u32.wrap ((u4.toNat:Int) * 268435456)=(u4.toNat:Int) * 268435456:=by
              have:=wrap_uN (k:=.u32) rfl (n:=u4.toNat * 268435456) (by simp only [IntKind.bits];omega)
              simpa using this
            have o4:IntKind.u32.wrap ((BitVec.ofInt IntKind.u32.bits (((u0.toNat % 128:Nat):Int)+((u1.toNat % 128:Nat):Int) * 128+((u2.toNat % 128:Nat):Int) * 16384+((u3.toNat % 128:Nat):Int) * 2097152) ||| BitVec.ofInt IntKind.u32.bits ((u4.toNat:Int) * 268435456)).toNat:Int)=((u0.toNat % 128:Nat):Int)+((u1.toNat % 128:Nat):Int) * 128+((u2.toNat % 128:Nat):Int) * 16384+((u3.toNat % 128:Nat):Int) * 2097152+(u4.toNat:Int) * 268435456:=by
              rw [or_add2 (a:=u0.toNat % 128+u1.toNat % 128 * 128+u2.toNat % 128 * 16384+u3.toNat % 128 * 2097152) (b:=u4.toNat) (s:=28) (by omega) (by omega) (by omega) (by simp only [IntKind.bits];omega),wrap_uN (k:=.u32) rfl (n:=u0.toNat % 128+u1.toNat % 128 * 128+u2.toNat % 128 * 16384+u3.toNat % 128 * 2097152+u4.toNat * 2 ^ 28) (by simp only [IntKind.bits];omega)]
              omega
            refine SC.wp_seq (SC.wp_reg ?_)
            repeat (apply ops_1;(focus (simp (disch:=(try simp only [sPu]);omega) [hst,hi3,h0,l4,c4,k4,s4,o4,e4,x3,-Int.natCast_emod,-List.length_cons,-BitVec.toNat_or,-BitVec.ofInt_natCast,-BitVec.ofInt_ofNat,-BitVec.toNat_ofInt,-BitVec.toNat_ofNat,-BitVec.toNat_and];try rfl)))
            refine oNi ?_
            simp only [Exit.then]
            have hle:decide ((u4.toNat:Int)≤15)=true:=decide_eq_true (by omega)
            refine SC.wp_seq (SC.wp_seq (SC.wp_reg ?_))
            repeat (apply ops_1;(focus (simp (disch:=(try simp only [sPu]);omega) [hst,h0,l4,c4,hle,-List.length_cons,-BitVec.toNat_or,-BitVec.ofInt_natCast,-BitVec.ofInt_ofNat,-BitVec.toNat_ofInt,-BitVec.toNat_ofNat,-BitVec.toNat_and];try rfl)))
            refine oNi ?_
            simp only [Exit.then]
            refine SC.wp_cond (t:=true) (by simp (disch:=(try simp only [sPu]);omega) [-List.length_cons,-BitVec.toNat_or,-BitVec.ofInt_natCast,-BitVec.ofInt_ofNat,-BitVec.toNat_ofInt,-BitVec.toNat_ofNat,-BitVec.toNat_and];try omega) ?_
            rw [if_pos rfl]
            refine SC.wp_seq (SC.wp_reg ?_)
            repeat (apply ops_1;(focus (simp (disch:=(try simp only [sPu]);omega) [-List.length_cons,-BitVec.toNat_or,-BitVec.ofInt_natCast,-BitVec.ofInt_ofNat,-BitVec.toNat_ofInt,-BitVec.toNat_ofNat,-BitVec.toNat_and];try rfl)))
            refine oNi ?_
            simp only [Exit.then]
            refine SC.wp_ret ?_
            simp only [Exit.then,Exit.jump]
            refine fin _ (u0.toNat % 128+u1.toNat % 128 * 128+u2.toNat % 128 * 16384+u3.toNat % 128 * 2097152+u4.toNat * 268435456) 5 (by simp [dPu,p3d]) (by simp (disch:=(try simp only [sPu]);omega) [-Int.natCast_emod,-List.length_cons,-BitVec.toNat_or,-BitVec.ofInt_natCast,-BitVec.ofInt_ofNat,-BitVec.toNat_ofInt,-BitVec.toNat_ofNat,-BitVec.toNat_and];try omega) (by simp (disch:=(try simp only [sPu]);omega)) ?_
            have hp:pUv (u0 :: u1 :: u2 :: u3 :: u4 :: r4)=some (u0.toNat % 128+u1.toNat % 128 * 128+u2.toNat % 128 * 16384+u3.toNat % 128 * 2097152+u4.toNat * 268435456,r4):=by
              simp only [pUv,pUvGo,hu0,hu1,hu2,hu3,hu4,if_true,if_false,Option.map_some,Option.some.injEq,Prod.mk.injEq,and_true]
              omega
            rw [hp]
            refine ⟨rfl,?_,by decide,?_⟩
            · simp only [List.length_cons]
              omega
            · rw [show (u0 :: u1 :: u2 :: u3 :: u4 :: r4).length - r4.length=5 by simp only [List.length_cons];omega]
              rfl
          · refine SC.wp_seq (SC.wp_reg ?_)
            repeat (apply ops_1;(focus (simp (disch:=(try simp only [sPu]);omega) [hst,hi3,h0,l4,c4,k4,e4,x3,-Int.natCast_emod,-List.length_cons,-BitVec.toNat_or,-BitVec.ofInt_natCast,-BitVec.ofInt_ofNat,-BitVec.toNat_ofInt,-BitVec.toNat_ofNat,-BitVec.toNat_and];try rfl)))
            refine oNi ?_
            simp only [Exit.then]
            have hle:decide ((u4.toNat:Int)≤15)=false:=decide_eq_false (by omega)
            refine SC.wp_seq (SC.wp_seq (SC.wp_reg ?_))
            repeat (apply ops_1;(focus (simp (disch:=(try simp only [sPu]);omega) [hst,h0,l4,c4,hle,-List.length_cons,-BitVec.toNat_or,-BitVec.ofInt_natCast,-BitVec.ofInt_ofNat,-BitVec.toNat_ofInt,-BitVec.toNat_ofNat,-BitVec.toNat_and];try rfl)))
            refine oNi ?_
            simp only [Exit.then]
            refine SC.wp_cond (t:=false) (by simp (disch:=(try simp only [sPu]);omega) [-List.length_cons,-BitVec.toNat_or,-BitVec.ofInt_natCast,-BitVec.ofInt_ofNat,-BitVec.toNat_ofInt,-BitVec.toNat_ofNat,-BitVec.toNat_and];try omega) ?_
            rw [if_neg (by simp)]
            refine SC.wp_skip ?_
            simp only [Exit.then]
            refine SC.wp_seq (SC.wp_reg ?_)
            repeat (apply ops_1;(focus (simp (disch:=(try simp only [sPu]);omega) [-List.length_cons,-BitVec.toNat_or,-BitVec.ofInt_natCast,-BitVec.ofInt_ofNat,-BitVec.toNat_ofInt,-BitVec.toNat_ofNat,-BitVec.toNat_and];try rfl)))
            refine oNi ?_
            simp only [Exit.then]
            refine SC.wp_seq (SC.wp_label ?_)
            simp only [Exit.then]
            refine SC.wp_seq (SC.wp_reg ?_)
            repeat (apply ops_1;(focus (simp (disch:=(try simp only [sPu]);omega) [-List.length_cons,-BitVec.toNat_or,-BitVec.ofInt_natCast,-BitVec.ofInt_ofNat,-BitVec.toNat_ofInt,-BitVec.toNat_ofNat,-BitVec.toNat_and];try rfl)))
            refine oNi ?_
            simp only [Exit.then]
            refine SC.wp_ret ?_
            simp only [Exit.then,Exit.jump]
            refine fin _ 0 (-5) (by simp [dPu,p3d]) (by simp (disch:=(try simp only [sPu]);omega) [-List.length_cons,-BitVec.toNat_or,-BitVec.ofInt_natCast,-BitVec.ofInt_ofNat,-BitVec.toNat_ofInt,-BitVec.toNat_ofNat,-BitVec.toNat_and]) (by simp (disch:=(try simp only [sPu]);omega) [-List.length_cons,-BitVec.toNat_or,-BitVec.ofInt_natCast,-BitVec.ofInt_ofNat,-BitVec.toNat_ofInt,-BitVec.toNat_ofNat,-BitVec.toNat_and]) ?_
            have hp:pUv (u0 :: u1 :: u2 :: u3 :: u4 :: r4)=none:=by simp [pUv,pUvGo,hu0,hu1,hu2,hu3,hu4]
            rw [hp]
            exact ⟨rfl,by decide⟩
end
end Go.Proofs.YtecdefhecaeclaaDoor.K
namespace Go.Proofs.YtecdefhecaeclaaDoor.K
open Go Go.RowKit Go.Proofs.YtecdefhecaeclaaDoor.T
attribute [local simp] eTm eCo pNo gTp gTn qv qcall vop iop
set_option linter.unusedSimpArgs false
set_option linter.unusedVariables false
set_option maxHeartbeats 2000000
def rDropV (R:RTy) (t s:Nat):SC:=.reg [mv t 0,mv (t+1) 0,nilc (t+2) (t+1),fa (t+3) R.TR (t+2) 0,ld (t+4) R.TB (t+3),mv (t+5) s,⟨some (t+6),.slice R.TB (.tmp (t+4)) (some (.tmp (t+5))) none none,none⟩,nilc (t+7) t,fa (t+8) R.TR (t+7) 0,⟨none,.store R.TB (.tmp (t+8)) (.tmp (t+6)),none⟩]
def sc_RSpan (R:RTy):SC:=.seq (.reg [⟨some 4,.assign (.const (.slice none 0 0)),none⟩]) (.seq (.seq (.reg [mv 6 0,nilc 7 6,fa 8 R.TR 7 0,ld 9 R.TB 8,lenOp 10 R.TB 9,mv 11 1,⟨some 12,.binOp .lss R.I (.tmp 10) (.tmp 11) R.I,none⟩,mv 13 12,⟨some 14,.move (.tmp 1),some (7,false)⟩,⟨some 15,.binOp .lss R.I (.tmp 14) (.const (.int .i64 0)) R.I,some (7,false)⟩,⟨some 16,.pick (.tmp 13) (.const (.bool true)) (.tmp 15),none⟩]) (.cond (.tmp 16) (rFail R 17 4 (.slice none 0 0)) (.skip))) (.seq (.reg [mv 23 0,nilc 24 23,fa 25 R.TR 24 0,ld 26 R.TB 25,mv 27 1,mv 28 1,⟨some 29,.slice R.TB (.tmp 26) none (some (.tmp 27)) (some (.tmp 28)),none⟩,asg 5 29]) (.seq (rDropV R 30 1) (.seq (.reg [mv 39 5,asg 4 39]) (.ret)))))
def sc_RUvarint (R:RTy) (F0:Nat):SC:=.seq (.reg [⟨some 2,.assign (.const (.int .u32 0)),none⟩]) (.seq (.reg [mv 6 0,nilc 7 6,fa 8 R.TR 7 0,ld 9 R.TB 8,cal 10 F0 [9],mv 5 10,⟨some 11,.extract (.tmp 5) 0,none⟩,⟨some 12,.extract (.tmp 5) 1,none⟩,asg 3 11,asg 4 12]) (.seq (.seq (.reg [mv 13 4,⟨some 14,.binOp .leq R.I (.tmp 13) (.const (.int .i64 0)) R.I,none⟩]) (.cond (.tmp 14) (rFail R 15 2 (.int .u32 0)) (.skip))) (.seq (rDropV R 21 4) (.seq (.reg [mv 30 3,asg 2 30]) (.ret)))))
def SpC (P:Program) (TR:Nat) (F:FuncId):Prop:=FnOK P F∧∀ (w:World) (S:Option Nat) (rb:Nat) (st:Option Bytes) (l:Int),RdAt TR w S rb st→(∀ sb,S=some sb→sb ≠ rb∧sb < w.heap.size) →
  Calls P F #[.pointer (some ⟨rb,0,none⟩),.int .i64 l] w fun e w'=>∃ (S':Option Nat) (base:Option Addr) (cap:Nat) (x:Bytes),e=.returned (.slice base x.length cap)∧RdAt TR w' S rb (after st (pSpan l))∧Only rb w w'∧SrcAt w' S' base x ∧
    (∀ bs y r,st=some bs→pSpan l bs=some (y,r)→x=y∧S'=S)∧(S'=none∨S'=S)
section
variable {P:Program} {R:RTy} {f:FuncId} {fn:Func}
theorem rDropV_ok {t s n len rb:Nat} {bad:Bool} {a:Act} {w:World} {base:Option Addr} {cap:Nat} {Q:Exit→Act→World→Prop} (hR:rdOK P R=true) (hr:rdRow R.TR w rb (.slice base len cap) bad) (hn:n≤len)
    (h0:getT a 0=.pointer (some ⟨rb,0,none⟩)) (hx:getT a s=.int .i64 (n:Int)) (ht:0 < t) (hst:s < t) (htN:t+9≤a.tmps.size)
    (hQ:∀ a',a'.tmps.size=a.tmps.size→a'.defers=a.defers→(∀ s,s < t→getT a' s=getT a s)→Q .normal a' (w.setRow rb (#[.slice base len cap,.bool bad].setIfInBounds 0 (sliceLo base len cap n)))):(rDropV R t s).wp P Q a w:=by
  have hf:=rd_facts hR
  have hcl:=rdRow_cells hr
  have hrow:w.heap[rb]?=some (.cells #[.slice base len cap,.bool bad] R.TR (0,0)):=hr
  refine SC.wp_reg (ops_mv (ops_mv (ops_nilc (ad:=⟨rb,0,none⟩) ?_ (ops_fa (fieldB_of hf.1) (b:=rb) (o:=0) ?_ (ops_ld hf.2.2.1 (ad:=⟨rb,0,none⟩) (v:=.slice base len cap) ?_ hcl.1 (ops_mv (oNo rfl (opw_sliceLo (n:=n) (k:=.i64) (len:=len) (cap:=cap) (base:=base) hf.2.2.2.1 ?_ ?_ hn (ops_nilc (ad:=⟨rb,0,none⟩) ?_ (ops_fa (fieldB_of hf.1) (b:=rb) (o:=0) ?_ (ops_stR (b:=rb) (i:=0) (v:=sliceLo base len cap n) hf.2.2.1 ?_ ?_ rfl hrow (by simp) (oNi ?_))))))))))))
  · rw [gTp (by simp only [sPu];omega),gTn (by omega)];exact h0
  · rw [gTp (by simp only [sPu];omega)]
  · rw [gTp (by simp only [sPu];omega)]
  · rw [eTm,gTn (by omega),gTp (by simp only [sPu];omega)]
  · rw [eTm,gTp (by simp only [sPu];omega),gTn (by omega),gTn (by omega),gTn (by omega),gTn (by omega),gTn (by omega)];exact hx
  · rw [gTn (by omega),gTn (by omega),gTn (by omega),gTn (by omega),gTn (by omega),gTn (by omega),gTp (by omega)];exact h0
  · rw [gTp (by simp only [sPu];omega)]
  · rw [eTm,gTp (by simp only [sPu];omega)]
  · rw [eTm,gTn (by omega),gTn (by omega),gTp (by simp only [sPu];omega)]
  refine hQ _ (by simp only [sPu]) (by simp only [dPu]) (fun s hs=>?_)
  rw [gTn (by omega),gTn (by omega),gTn (by omega),gTn (by omega),gTn (by omega),gTn (by omega),gTn (by omega),gTn (by omega),gTn (by omega)]
theorem SrcAt.take {w:World} {S:Option Nat} {base:Option Addr} {rest:Bytes} {n:Nat} (h:SrcAt w S base rest):SrcAt w S base (rest.take n):=by
  cases S with
  | none =>
    obtain ⟨rfl,rfl⟩:=h
    exact ⟨rfl,by simp⟩
  | some sb =>
    obtain ⟨o,rfl,h2⟩:=h
    refine ⟨o,rfl,fun j u hu=>h2 j u ?_⟩
    rw [List.getElem?_take] at hu
    split at hu
    · exact hu
    · simp at hu
theorem pSpan_no {l:Int} {b:Bytes} (h:(b.length:Int) < l∨l < 0):pSpan l b=none:=by simp [pSpan,h]
theorem pSpan_yes {n:Nat} {b:Bytes} (h:n≤b.length):pSpan (n:Int) b=some (b.take n,b.drop n):=by
  unfold pSpan
  rw [if_neg (by omega)]
  rfl
theorem rSpan_ok {TR : Nat} (hTR : R.TR = TR) (hR : rdOK P R = true) (hf : P.funcs[f]? = some fn) (hb : fn.body.map strip = some (sc_RSpan R)) (hnm : (fn.name == "runtime.NumGoroutine") = false) (hn : fn.ntmps = 40) (hr : fn.results = #[.tmp 4]) : SpC P TR f := by
  subst hTR
  have hst:=rd_facts hR
  refine ⟨fnOK_of hf hb hnm,fun w S rb st l hrd hsrc=>?_⟩
  refine fCa hf hb hn (by simp) fun a0 hs hd ha=>?_
  have h0:=ha 0 _ rfl
  have h1:=ha 1 _ rfl
  simp only [List.getElem_toArray,List.getElem_cons_zero,List.getElem_cons_succ] at h0 h1
  obtain ⟨bad,len,base,cap,hrow,hlen⟩:∃ bad len base cap,rdRow R.TR w rb (.slice base len cap) bad∧((st=none∧bad=true∧len=0∧base=none∧cap=0)∨∃ rest,st=some rest∧bad=false∧len=rest.length∧len≤cap∧SrcAt w S base rest):=by
    rcases rdAt_row hrd with ⟨rfl,hrow⟩ | ⟨rest,base,cap,rfl,hrow,hcap,hsr⟩
    · exact ⟨_,_,_,_,hrow,.inl ⟨rfl,rfl,rfl,rfl,rfl⟩⟩
    · exact ⟨_,_,_,_,hrow,.inr ⟨_,rfl,rfl,rfl,hcap,hsr⟩⟩
  have hc:=rdRow_cells hrow
  refine SC.wp_seq (SC.wp_reg ?_)
  repeat (first | (apply ops_1;(focus (simp (disch:=(try simp only [sPu]);omega) ;try rfl))) | (apply ops_y;(focus rfl);(focus ((try simp only [sPu]);omega));(focus (simp (disch:=(try simp only [sPu]);omega);done));(focus (simp (disch:=(try simp only [sPu]);omega) ;try rfl))) | (apply ops_n;(focus rfl);(focus ((try simp only [sPu]);omega));(focus (first | (left;simp (disch:=(try simp only [sPu]);omega);done) | (right;simp (disch:=(try simp only [sPu]);omega);done)))))
  refine oNi (SC.wp_seq (SC.wp_seq (SC.wp_reg ?_)))
  refine Decidable.byCases (p:=(len:Int) < l) (fun hl=>?_) (fun hl=>?_)
  · have hl':decide ((len:Int) < l)=true:=decide_eq_true hl
    repeat (first | (apply ops_1;(focus (simp (disch:=(try simp only [sPu]);omega) [hst,h0,h1,hc,hl,hl'];try rfl))) | (apply ops_y;(focus rfl);(focus ((try simp only [sPu]);omega));(focus (simp (disch:=(try simp only [sPu]);omega) [hst,h0,h1,hc,hl,hl'];done));(focus (simp (disch:=(try simp only [sPu]);omega) [hst,h0,h1,hc,hl,hl'];try rfl))) | (apply ops_n;(focus rfl);(focus ((try simp only [sPu]);omega));(focus (first | (left;simp (disch:=(try simp only [sPu]);omega) [hst,h0,h1,hc,hl,hl'];done) | (right;simp (disch:=(try simp only [sPu]);omega);done)))))
    refine oNi (SC.wp_cond (t:=true) (by simp (disch:=(try simp only [sPu]);omega)) ?_)
    rw [if_pos rfl]
    refine rFail_ok (S:=S) hR hrow (by simp (disch:=(try simp only [sPu]);omega) [h0]) (by omega) (by simp [sPu,hs]) (by simp [sPu,hs]) fun a' w' q1 q2 q3 q4=>?_
    simp only [Exit.then]
    refine ret_tmp hr (by rw [q1];simp [dPu,hd]) ⟨none,none,0,[],by rw [q2];rfl,?_,q4,⟨rfl,rfl⟩,fun bs y r h hp=>?_,.inl rfl⟩
    · rcases hlen with ⟨rfl,-⟩ | ⟨rest,rfl,-,rfl,-⟩
      · exact q3
      · rw [after_no (pSpan_no (.inl hl))];exact q3
    · rcases hlen with ⟨rfl,-⟩ | ⟨rest,rfl,-,rfl,-⟩
      · cases h
      · cases h
        rw [pSpan_no (.inl hl)] at hp
        cases hp
  have hl':decide ((len:Int) < l)=false:=decide_eq_false hl
  refine Decidable.byCases (p:=l < 0) (fun hl0=>?_) (fun hl0=>?_)
  · have hl0':decide (l < 0)=true:=decide_eq_true hl0
    repeat (first | (apply ops_1;(focus (simp (disch:=(try simp only [sPu]);omega) [hst,h0,h1,hc,hl,hl',hl0,hl0'];try rfl))) | (apply ops_y;(focus rfl);(focus ((try simp only [sPu]);omega));(focus (simp (disch:=(try simp only [sPu]);omega) [hst,h0,h1,hc,hl,hl',hl0,hl0'];done));(focus (simp (disch:=(try simp only [sPu]);omega) [hst,h0,h1,hc,hl,hl',hl0,hl0'];try rfl))) | (apply ops_n;(focus rfl);(focus ((try simp only [sPu]);omega));(focus (first | (left;simp (disch:=(try simp only [sPu]);omega) [hst,h0,h1,hc,hl,hl',hl0,hl0'];done) | (right;simp (disch:=(try simp only [sPu]);omega);done)))))
    refine oNi (SC.wp_cond (t:=true) (by simp (disch:=(try simp only [sPu]);omega)) ?_)
    rw [if_pos rfl]
    refine rFail_ok (S:=S) hR hrow (by simp (disch:=(try simp only [sPu]);omega) [h0]) (by omega) (by simp [sPu,hs]) (by simp [sPu,hs]) fun a' w' q1 q2 q3 q4=>?_
    simp only [Exit.then]
    refine ret_tmp hr (by rw [q1];simp [dPu,hd]) ⟨none,none,0,[],by rw [q2];rfl,?_,q4,⟨rfl,rfl⟩,fun bs y r h hp=>?_,.inl rfl⟩
    · rcases hlen with ⟨rfl,-⟩ | ⟨rest,rfl,-,rfl,-⟩
      · exact q3
      · rw [after_no (pSpan_no (.inr hl0))];exact q3
    · rcases hlen with ⟨rfl,-⟩ | ⟨rest,rfl,-,rfl,-⟩
      · cases h
      · cases h
        rw [pSpan_no (.inr hl0)] at hp
        cases hp
  have hl0':decide (l < 0)=false:=decide_eq_false hl0
  obtain ⟨n,rfl⟩:∃ n:Nat,l=(n:Int):=⟨l.toNat,by omega⟩
  have hnl:n≤len:=by omega
  have hnc:n≤cap:=by
    rcases hlen with ⟨-,-,rfl,-,rfl⟩ | ⟨rest,-,-,-,h,-⟩ <;> omega
  repeat (first | (apply ops_1;(focus (simp (disch:=(try simp only [sPu]);omega) [hst,h0,h1,hc,hl,hl',hl0,hl0'];try rfl))) | (apply ops_y;(focus rfl);(focus ((try simp only [sPu]);omega));(focus (simp (disch:=(try simp only [sPu]);omega) [hst,h0,h1,hc,hl,hl',hl0,hl0'];done));(focus (simp (disch:=(try simp only [sPu]);omega) [hst,h0,h1,hc,hl,hl',hl0,hl0'];try rfl))) | (apply ops_n;(focus rfl);(focus ((try simp only [sPu]);omega));(focus (first | (left;simp (disch:=(try simp only [sPu]);omega) [hst,h0,h1,hc,hl,hl',hl0,hl0'];done) | (right;simp (disch:=(try simp only [sPu]);omega);done)))))
  refine oNi (SC.wp_cond (t:=false) (by simp (disch:=(try simp only [sPu]);omega)) ?_)
  rw [if_neg (by simp)]
  refine SC.wp_skip ?_
  simp only [Exit.then]
  refine SC.wp_seq (SC.wp_reg ?_)
  iterate 6 (first | (apply ops_1;(focus (simp (disch:=(try simp only [sPu]);omega) [hst,h0,h1,hc];try rfl))) | (apply ops_y;(focus rfl);(focus ((try simp only [sPu]);omega));(focus (simp (disch:=(try simp only [sPu]);omega) [hst,h0,h1,hc];done));(focus (simp (disch:=(try simp only [sPu]);omega) [hst,h0,h1,hc];try rfl))) | (apply ops_n;(focus rfl);(focus ((try simp only [sPu]);omega));(focus (first | (left;simp (disch:=(try simp only [sPu]);omega) [hst,h0,h1,hc];done) | (right;simp (disch:=(try simp only [sPu]);omega);done)))))
  refine oNo rfl (opw_slice3 (n:=n) (k:=.i64) (k':=.i64) (len:=len) (cap:=cap) (base:=base) hst.2.2.2.1 (by simp (disch:=(try simp only [sPu]);omega)) (by simp (disch:=(try simp only [sPu]);omega)) (by simp (disch:=(try simp only [sPu]);omega)) hnc ?_)
  repeat (first | (apply ops_1;(focus (simp (disch:=(try simp only [sPu]);omega) ;try rfl))) | (apply ops_y;(focus rfl);(focus ((try simp only [sPu]);omega));(focus (simp (disch:=(try simp only [sPu]);omega);done));(focus (simp (disch:=(try simp only [sPu]);omega) ;try rfl))) | (apply ops_n;(focus rfl);(focus ((try simp only [sPu]);omega));(focus (first | (left;simp (disch:=(try simp only [sPu]);omega);done) | (right;simp (disch:=(try simp only [sPu]);omega);done)))))
  refine oNi ?_
  simp only [Exit.then]
  refine SC.wp_seq (rDropV_ok (n:=n) hR hrow hnl (by simp (disch:=(try simp only [sPu]);omega) [h0]) (by simp (disch:=(try simp only [sPu]);omega) [h1]) (by omega) (by omega) (by simp [sPu,hs]) fun a1 q1 q2 q3=>?_)
  have hs1:a1.tmps.size=40:=by rw [q1];simp [sPu,hs]
  have hd1:a1.defers=[]:=by rw [q2];simp [dPu,hd]
  have h5:getT a1 5=.slice base n n:=by rw [q3 5 (by omega)];simp (disch:=(try simp only [sPu]);omega)
  simp only [Exit.then]
  refine SC.wp_seq (SC.wp_reg ?_)
  repeat (first | (apply ops_1;(focus (simp (disch:=(try simp only [sPu]);omega) [h5];try rfl))) | (apply ops_y;(focus rfl);(focus ((try simp only [sPu]);omega));(focus (simp (disch:=(try simp only [sPu]);omega) [h5];done));(focus (simp (disch:=(try simp only [sPu]);omega) [h5];try rfl))) | (apply ops_n;(focus rfl);(focus ((try simp only [sPu]);omega));(focus (first | (left;simp (disch:=(try simp only [sPu]);omega) [h5];done) | (right;simp (disch:=(try simp only [sPu]);omega);done)))))
  refine oNi (SC.wp_ret ?_)
  have hon:Only rb w (w.setRow rb (#[.slice base len cap,.bool bad].setIfInBounds 0 (sliceLo base len cap n))):=(Only.refl rb w).setRow _
  have hres:getT ((a1.put (some 39) (Value.slice base n n)).put (some 4) (Value.slice base n n)) 4=.slice base n n:=by simp (disch:=(try simp only [sPu]);omega)
  rcases hlen with ⟨rfl,rfl,rfl,rfl,rfl⟩ | ⟨rest,rfl,rfl,rfl,hcap,hsr⟩
  · obtain rfl:n=0:=by omega
    refine ret_tmp hr (by simp [dPu,hd1]) ⟨none,none,0,[],by rw [hres];rfl,?_,hon,⟨rfl,rfl⟩,fun bs y r h hp=>(by cases h),.inl rfl⟩
    exact rdAt_bad (fr:=(0,0)) hrow (by simp [sliceLo])
  · have hp1:=pSpan_yes hnl
    refine ret_tmp hr (by simp [dPu,hd1]) ⟨S,base,n,rest.take n,by rw [hres,List.length_take,Nat.min_eq_left hnl],?_,hon,?_,fun bs y r h hp=>?_,.inr rfl⟩
    · rw [after_ok hp1]
      exact rdAt_drop hrow hcap hsr (fun s h=>(hsrc s h).1) hnl
    · exact hsr.take.frame fun sb hsb=>setRow_other _ _ _ _ (hsrc sb hsb).1
    · cases h
      rw [hp1] at hp
      cases hp
      exact ⟨rfl,rfl⟩
theorem opw_extract {a:Act} {w:World} {K:Act→World→Prop} {d:Option Tmp} {g:Option (Nat × Bool)} {x:Operand} {i:Nat} {v:Value} {vs:Array Value} (hx:a.eval x=.tuple vs) (hv:vs[i]?=some v) (h:K (a.put d v) w):opw P ⟨d,.extract x i,g⟩ a w K :=
  oVa (by simp) (fun o ho=>by simp [execOp,ho,hx,Instr.extract,hv]) h
theorem RC.ty {α:Type} {TR gb:Nat} {p:Rd α} {ty ty':Value→Prop} {ok:World→(Nat→Prop)→α→Value→Prop} (h:RC P TR gb f p ty ok) (hty:∀ v,ty v→ty' v):RC P TR gb f p ty' ok :=
  ⟨h.1,fun w S rb st h1 h2 h3=>(h.2 w S rb st h1 h2 h3).mono fun e w' ⟨v,q1,q2,q3,q4,q5⟩=>⟨v,q1,q2,q3,hty v q4,q5⟩⟩
theorem rUvarint_ok {TR gb F0 : Nat} (hTR : R.TR = TR) (hR : rdOK P R = true) (hF : UvC P F0) (hf : P.funcs[f]? = some fn) (hb : fn.body.map strip = some (sc_RUvarint R F0)) (hnm : (fn.name == "runtime.NumGoroutine") = false) (hn : fn.ntmps = 31) (hr : fn.results = #[.tmp 2]) :
    RC P TR gb f pUv (fun v=>∃ n:Nat,n < 4294967296∧v=.int .u32 (n:Int)) (fun _ _ n v=>v=.int .u32 (n:Int)):=by
  subst hTR
  have hst:=rd_facts hR
  refine ⟨fnOK_of hf hb hnm,fun w S rb st hgb hrd hsrc=>?_⟩
  refine fCa hf hb hn (by simp) fun a0 hs hd ha=>?_
  have h0:=ha 0 _ rfl
  simp only [List.getElem_toArray,List.getElem_cons_zero,List.getElem_cons_succ] at h0
  obtain ⟨bad,xs,base,cap,S1,hrow,hs1,hlen⟩:∃ bad xs base cap S1,rdRow R.TR w rb (.slice base (List.length xs) cap) bad∧SrcAt w S1 base xs∧((st=none∧bad=true∧xs=[])∨(st=some xs∧bad=false∧S1=S∧xs.length≤cap)):=by
    rcases rdAt_row hrd with ⟨rfl,hrow⟩ | ⟨rest,base,cap,rfl,hrow,hcap,hsr⟩
    · exact ⟨_,[],none,0,none,hrow,⟨rfl,rfl⟩,.inl ⟨rfl,rfl,rfl⟩⟩
    · exact ⟨_,rest,base,cap,S,hrow,hsr,.inr ⟨rfl,rfl,rfl,hcap⟩⟩
  have hc:=rdRow_cells hrow
  refine SC.wp_seq (SC.wp_reg ?_)
  repeat (apply ops_1;(focus (simp (disch:=(try simp only [sPu]);omega) ;try rfl)))
  refine oNi (SC.wp_seq (SC.wp_reg ?_))
  iterate 4 (apply ops_1;(focus (simp (disch:=(try simp only [sPu]);omega) [hst,h0,hc];try rfl)))
  refine ops_call hF.1 (hF.2 w S1 base xs cap hs1) (by simp (disch:=(try simp only [sPu]);omega)) ?_
  rintro e w1 ⟨rfl,x,n,rfl,hxn⟩
  refine ⟨_,rfl,?_⟩
  iterate 1 (apply ops_1;(focus (simp (disch:=(try simp only [sPu]);omega) ;try rfl)))
  refine oNo rfl (opw_extract (vs:=#[.int .u32 (x:Int),.int .i64 n]) (v:=.int .u32 (x:Int)) (by simp (disch:=(try simp only [sPu]);omega)) rfl ?_)
  refine oNo rfl (opw_extract (vs:=#[.int .u32 (x:Int),.int .i64 n]) (v:=.int .i64 n) (by simp (disch:=(try simp only [sPu]);omega)) rfl ?_)
  repeat (apply ops_1;(focus (simp (disch:=(try simp only [sPu]);omega) ;try rfl)))
  refine oNi (SC.wp_seq (SC.wp_seq (SC.wp_reg ?_)))
  repeat (apply ops_1;(focus (simp (disch:=(try simp only [sPu]);omega) ;try rfl)))
  refine oNi (SC.wp_cond (t:=decide (n≤0)) (by simp (disch:=(try simp only [sPu]);omega)) ?_)
  refine Decidable.byCases (p:=n≤0) (fun hn0=>?_) (fun hn0=>?_)
  · have hno:after st pUv=none:=by
      rcases hlen with ⟨rfl,-⟩ | ⟨rfl,-⟩
      · rfl
      · refine after_no ?_
        cases hp:pUv xs with
        | none=>rfl
        | some z=>obtain ⟨y,r⟩:=z;rw [hp] at hxn;exact absurd hxn.2.2.1 (by omega)
    rw [if_pos (decide_eq_true hn0)]
    refine rFail_ok (S:=S) hR hrow (by simp (disch:=(try simp only [sPu]);omega) [h0]) (by omega) (by simp [sPu,hs]) (by simp [sPu,hs]) fun a' w' q1 q2 q3 q4=>?_
    simp only [Exit.then]
    refine ret_tmp hr (by rw [q1];simp [dPu,hd]) ⟨_,rfl,by rw [hno];exact q3,q4,⟨0,by decide,q2⟩,fun b y r h hp=>?_⟩
    subst h
    rw [after_ok hp] at hno
    cases hno
  · rw [if_neg (by simpa using hn0)]
    refine SC.wp_skip ?_
    simp only [Exit.then]
    cases hp:pUv xs with
    | none=>rw [hp] at hxn;exact absurd hxn.2 hn0
    | some z =>
    obtain ⟨y,r⟩:=z
    rw [hp] at hxn
    obtain ⟨rfl,rfl,-,hr2⟩:=hxn
    have hle:xs.length - r.length≤xs.length:=by omega
    refine SC.wp_seq (rDropV_ok (n:=xs.length - r.length) hR hrow hle (by simp (disch:=(try simp only [sPu]);omega) [h0]) (by simp (disch:=(try simp only [sPu]);omega)) (by omega) (by omega) (by simp [sPu,hs]) fun a1 q1 q2 q3=>?_)
    have hs2:a1.tmps.size=31:=by rw [q1];simp [sPu,hs]
    have hd1:a1.defers=[]:=by rw [q2];simp [dPu,hd]
    have h3:getT a1 3=.int .u32 (x:Int):=by rw [q3 3 (by omega)];simp (disch:=(try simp only [sPu]);omega)
    simp only [Exit.then]
    refine SC.wp_seq (SC.wp_reg ?_)
    repeat (apply ops_1;(focus (simp (disch:=(try simp only [sPu]);omega) [h3];try rfl)))
    refine oNi (SC.wp_ret ?_)
    rcases hlen with ⟨rfl,rfl,rfl⟩ | ⟨rfl,rfl,rfl,hcap⟩
    · simp [pUv,pUvGo] at hp
    · refine ret_tmp hr (by simp [dPu,hd1]) ⟨_,rfl,?_,(Only.refl rb _).setRow _,⟨x,(pUv_facts hp).1,by simp (disch:=(try simp only [sPu]);omega)⟩,fun b y r1 h hp1=>?_⟩
      · rw [after_ok hp]
        have hz:=rdAt_drop hrow hcap hs1 (fun s h=>(hsrc s h).1) hle
        rw [← hr2] at hz
        exact hz
      · cases h
        rw [hp] at hp1
        cases hp1
        simp (disch:=(try simp only [sPu]);omega)
end
end Go.Proofs.YtecdefhecaeclaaDoor.K
namespace Go.Proofs.YtecdefhecaeclaaDoor.K
open Go Go.RowKit Go.Proofs.YtecdefhecaeclaaDoor.T
attribute [local simp] eTm eCo pNo gTp gTn qv qcall vop iop
set_option linter.unusedSimpArgs false
set_option linter.unusedVariables false
set_option maxHeartbeats 2000000
def bstrB (P:Program) (TB TS:Nat):Bool :=
  (match P.underlying TB with
  | some (.slice e)=>(match P.underlying e with | some (.int .u8)=>true | _=>false)
  | _=>false) && (match P.underlying TS with | some .string=>true | _=>false)
def zeroOne (P:Program) (T:Nat):Bool:=oneB P T && (match P.info? T with
  | some i=>(match i.zero with | some z=>z.cells.size == 1 | _=>false)
  | _=>false)
theorem zeroOne_of {P:Program} {T:Nat} (h:zeroOne P T=true):oneB P T=true∧∃ i z,P.info? T=some i∧i.zero=some z∧z.cells.size=1:=by
  simp only [zeroOne,Bool.and_eq_true] at h
  obtain ⟨h1,h⟩:=h
  split at h <;> try (simp at h;done)
  rename_i i hi
  split at h <;> try (simp at h;done)
  rename_i z hz
  exact ⟨h1,i,z,hi,hz,by simpa using h⟩
section
variable {P:Program} {a:Act} {w:World} {K:Act→World→Prop} {d:Option Tmp} {g:Option (Nat × Bool)}
theorem opw_str {T0 T1 cap:Nat} {x:Operand} {base:Option Addr} {S:Option Nat} {bs:Bytes} (hT:bstrB P T0 T1=true) (hx:a.eval x=.slice base bs.length cap) (hs:SrcAt w S base bs) (h:K (a.put d (.string ⟨bs.toArray⟩)) w):opw P ⟨d,.convert T0 T1 x,g⟩ a w K:=by
  simp only [bstrB,Bool.and_eq_true] at hT
  obtain ⟨h1,h2⟩:=hT
  split at h1 <;> try (simp at h1;done)
  rename_i e he
  split at h1 <;> try (simp at h1;done)
  rename_i he2
  split at h2 <;> try (simp at h2;done)
  rename_i h3
  refine oVa (v:=.string ⟨bs.toArray⟩) (by simp) (fun p hp=>?_) h
  have hr:(convert T0 T1 (.slice base bs.length cap)).run P w=.ok (.string ⟨bs.toArray⟩) w:=by
    cases S with
    | none =>
      obtain ⟨rfl,rfl⟩:=hs
      exact run_convert_bytes_nil w T0 e he he2 _ _ T1 h3
    | some sb =>
      obtain ⟨q,rfl,hc⟩:=hs
      have:=run_convert_bytes_arg (P:=P) w T0 e he he2 sb q bs.length cap (bs.map fun u=>(u.toNat:Int)) (by simp) (fun i hi=>by
        rw [hc i bs[i] (List.getElem?_eq_getElem hi)]
        simp [cell,hi]) T1 h3
      rw [this]
      have hfun:((fun n:Int=>UInt8.ofNat n.toNat) ∘ fun u:UInt8=>(u.toNat:Int))=id:=by funext u;simp
      simp only [strOfNums,List.map_map,hfun,List.map_id]
  simp [execOp,hp,hx,hr]
theorem opw_slice00' {T E n:Nat} (hT:sliceB P T E n=true) (hz:∃ i z,P.info? E=some i∧i.zero=some z) (h:K (a.put d (.slice (some ⟨w.heap.size,0,none⟩) 0 0)) (w.alloc (.cells #[] E))) :
    opw P ⟨d,.buildSlice T 0 #[],g⟩ a w K:=by
  obtain ⟨hu,i,hi,hs⟩:=slice_of hT
  obtain ⟨i',z,hi',hz⟩:=hz
  rw [hi] at hi'
  cases hi'
  refine oVa (w':=w.alloc (.cells #[] E)) (by simp) (fun p hp=>?_) h
  have hr1:Array.range 0=#[]:=by decide
  simp [execOp,hp,Instr.buildSlice,run_underlying hu,sizeOf,typeInfo,zeroValue,hi,hz,newRow,hr1,Instr.fill]
end
theorem after_prim {α β γ:Type} {st:Option Bytes} {pC:Rd α} {g:α→Rd β} {q:Rd γ} (h:∀ b x r,st=some b→pC b=some (x,r)→after (some r) (g x)=after (some r) q):after st (rThen pC g)=after (after st pC) q:=by
  cases st with
  | none=>rfl
  | some b =>
    cases hp:pC b with
    | none=>rw [after_then_none (after_no hp),after_no hp];rfl
    | some z=>rw [after_then _ _ _ rfl hp,after_ok hp];exact h b z.1 z.2 rfl hp
theorem after_map {α β:Type} {st:Option Bytes} {p:Rd α} {g:α→β}:after st (rThen p fun x=>rOk (g x))=after st p:=by
  rw [after_prim (q:=rOk ()) (fun b x r _ _=>by rw [after_rOk,after_rOk]),after_rOk]
theorem after_cnt_uv {st:Option Bytes} {sz:Nat}:after st (pCount true sz)=after st pUv:=by
  simp only [pCount,if_true]
  exact after_map
theorem wrap64 {n:Int} (h1:-9223372036854775808≤n) (h2:n < 9223372036854775808):IntKind.i64.wrap n=n:=by
  simp only [IntKind.wrap,IntKind.bits,IntKind.signed]
  simp
  split <;> omega
theorem pInt_rng {k:Nat} (hk:k=2∨k=4) {b r:Bytes} {x:Int} (h:pInt k b=some (x,r)):-2147483648≤x∧x < 2147483648:=by
  obtain ⟨n,r1,h1,h2⟩:=rThen_some h
  obtain ⟨rfl,-⟩:=rOk_some h2
  have h3:=(pFix_facts h1)
  have h4:=unfix_lt (b.take k)
  rw [← h3.2.1,List.length_take,Nat.min_eq_left (by omega)] at h4
  rcases hk with rfl | rfl
  · simp only [sgn]
    have h4':n < 65536:=h4
    simp
    split <;> omega
  · simp only [sgn]
    have h4':n < 4294967296:=h4
    simp
    split <;> omega
theorem cnt_int {k:Nat} (hk:k=2∨k=4) {n:Int} {ks:IntKind} {st:Option Bytes} (q:∀ b x r,st=some b→pInt k b=some (x,r)→Value.int ks n=.int ks x):∀ b x r,st=some b→pCount false k b=some (x,r)→IntKind.i64.wrap n=x∧n=x:=by
  intro b x r hb hp
  have hp':pInt k b=some (x,r):=hp
  have hv:=q b x r hb hp'
  simp only [Value.int.injEq,true_and] at hv
  subst hv
  have:=pInt_rng hk hp'
  exact ⟨wrap64 (by omega) (by omega),rfl⟩
theorem cnt_uv {sz:Nat} {n:Int} {st:Option Bytes} (q:∀ b x r,st=some b→pUv b=some (x,r)→Value.int .u32 n=.int .u32 (x:Int)):∀ b x r,st=some b→pCount true sz b=some (x,r)→IntKind.i64.wrap (IntKind.i64.wrap n - 1)=x:=by
  intro b x r hb hp
  simp only [pCount,if_true] at hp
  obtain ⟨y,r1,h1,h2⟩:=rThen_some hp
  obtain ⟨rfl,-⟩:=rOk_some h2
  have hv:=q b y r1 hb h1
  simp only [Value.int.injEq,true_and] at hv
  subst hv
  have:=(pUv_facts h1).1
  rw [wrap64 (n:=(y:Int)) (by omega) (by omega),wrap64 (by omega) (by omega)]
theorem src_some {TR:Nat} {w:World} {S:Option Nat} {rb:Nat} {b:Bytes} {α:Type} {p:Rd α} {z:α × Bytes} (h:RdAt TR w S rb (some b)) (hp:p b=some z) (hne:p []=none):∃ sb,S=some sb:=by
  cases S with
  | some sb=>exact ⟨sb,rfl⟩
  | none =>
    rcases rdAt_row h with ⟨h1,-⟩ | ⟨rest,base,cap,h1,-,-,hs⟩
    · cases h1
    · cases h1
      obtain ⟨-,rfl⟩:=hs
      rw [hne] at hp
      cases hp
theorem pCount_nil {flex:Bool} {sz:Nat} (h:0 < sz):pCount flex sz []=none:=by
  cases flex
  · simp only [pCount,Bool.false_eq_true,if_false]
    exact pInt_no (by simpa using h)
  · rfl
theorem bytesAt_src {w:World} {F:Nat→Prop} {S:Option Nat} {base:Option Addr} {bs:Bytes} (h:SrcAt w S base bs) (hF:∀ sb,S=some sb→F sb):BytesAt w F base bs:=by
  cases S with
  | none=>exact .inl h.2
  | some sb =>
    obtain ⟨q,h1,h2⟩:=h
    exact .inr ⟨sb,q,h1,hF sb rfl,h2⟩
section
variable {P:Program} {R:RTy} {f:FuncId} {fn:Func}
def sc_RStr (T0 T1 T2 T3 F0 F1:Nat):SC:=.seq (.reg [⟨some 2,.assign (.const (.string ⟨#[]⟩)),none⟩]) (.seq (.reg [mv 4 0,cal 5 F0 [4],asg 3 5]) (.seq (.reg [mv 6 0,mv 7 3,⟨some 8,.convert T0 T1 (.tmp 7),none⟩,cal 9 F1 [6,8],⟨some 10,.convert T2 T3 (.tmp 9),none⟩,asg 2 10]) (.ret)))
def sc_RCStr (T0 T1 T2 T3 F0 F1:Nat):SC:=.seq (.reg [⟨some 2,.assign (.const (.string ⟨#[]⟩)),none⟩]) (.seq (.reg [mv 4 0,cal 5 F0 [4],⟨some 6,.convert T0 T1 (.tmp 5),none⟩,⟨some 7,.binOp .sub T1 (.tmp 6) (.const (.int .i64 1)) T1,none⟩,asg 3 7]) (.seq (.reg [mv 8 0,mv 9 3,cal 10 F1 [8,9],⟨some 11,.convert T2 T3 (.tmp 10),none⟩,asg 2 11]) (.ret)))
def sc_RNStr (T0 T1 T2 T3 F0 F1:Nat):SC:=.seq (.reg [⟨some 2,.assign (.const (.pointer none)),none⟩]) (.seq (.reg [mv 5 0,cal 6 F0 [5],asg 3 6]) (.seq (.seq (.reg [mv 7 3,⟨some 8,.binOp .lss T0 (.tmp 7) (.const (.int .i16 0)) T0,none⟩]) (.cond (.tmp 8) (.seq (.reg [⟨some 2,.assign (.const (.pointer none)),none⟩]) (.ret)) (.skip))) (.seq (.reg [mv 9 0,mv 10 3,⟨some 11,.convert T0 T1 (.tmp 10),none⟩,cal 12 F1 [9,11],⟨some 13,.convert T2 T3 (.tmp 12),none⟩,⟨some 4,.alloc T3,none⟩,⟨none,.store T3 (.tmp 4) (.tmp 13),none⟩]) (.seq (.reg [asg 2 4]) (.ret)))))
def sc_RCNStr (T0 T1 T2 T3 F0 F1:Nat):SC:=.seq (.reg [⟨some 2,.assign (.const (.pointer none)),none⟩]) (.seq (.reg [mv 5 0,cal 6 F0 [5],⟨some 7,.convert T0 T1 (.tmp 6),none⟩,⟨some 8,.binOp .sub T1 (.tmp 7) (.const (.int .i64 1)) T1,none⟩,asg 3 8]) (.seq (.seq (.reg [mv 9 3,⟨some 10,.binOp .lss T1 (.tmp 9) (.const (.int .i64 0)) T1,none⟩]) (.cond (.tmp 10) (.seq (.reg [⟨some 2,.assign (.const (.pointer none)),none⟩]) (.ret)) (.skip))) (.seq (.reg [mv 11 0,mv 12 3,cal 13 F1 [11,12],⟨some 14,.convert T2 T3 (.tmp 13),none⟩,⟨some 4,.alloc T3,none⟩,⟨none,.store T3 (.tmp 4) (.tmp 14),none⟩]) (.seq (.reg [asg 2 4]) (.ret)))))
def sc_RBytes (T0 TB T1 F0 F1:Nat):SC:=.seq (.reg [⟨some 2,.assign (.const (.slice none 0 0)),none⟩]) (.seq (.reg [mv 4 0,cal 5 F0 [4],asg 3 5]) (.seq (.seq (.reg [mv 6 3,⟨some 7,.binOp .eql T0 (.tmp 6) (.const (.int .i32 (-1))) T0,none⟩]) (.cond (.tmp 7) (.seq (.reg [⟨some 8,.buildSlice TB 0 #[],none⟩,asg 2 8]) (.ret)) (.skip))) (.seq (.reg [mv 9 0,mv 10 3,⟨some 11,.convert T0 T1 (.tmp 10),none⟩,cal 12 F1 [9,11],asg 2 12]) (.ret))))
def sc_RCBytes (T0 T1 TB F0 F1:Nat):SC:=.seq (.reg [⟨some 2,.assign (.const (.slice none 0 0)),none⟩]) (.seq (.reg [mv 4 0,cal 5 F0 [4],⟨some 6,.convert T0 T1 (.tmp 5),none⟩,⟨some 7,.binOp .sub T1 (.tmp 6) (.const (.int .i64 1)) T1,none⟩,asg 3 7]) (.seq (.seq (.reg [mv 8 3,⟨some 9,.binOp .eql T1 (.tmp 8) (.const (.int .i64 (-1))) T1,none⟩]) (.cond (.tmp 9) (.seq (.reg [⟨some 10,.buildSlice TB 0 #[],none⟩,asg 2 10]) (.ret)) (.skip))) (.seq (.reg [mv 11 0,mv 12 3,cal 13 F1 [11,12],asg 2 13]) (.ret))))
def sc_RNBytes (T0 T1 F0 F1:Nat):SC:=.seq (.reg [⟨some 2,.assign (.const (.slice none 0 0)),none⟩]) (.seq (.reg [mv 5 0,cal 6 F0 [5],asg 3 6]) (.seq (.seq (.reg [mv 7 3,⟨some 8,.binOp .lss T0 (.tmp 7) (.const (.int .i32 0)) T0,none⟩]) (.cond (.tmp 8) (.seq (.reg [⟨some 2,.assign (.const (.slice none 0 0)),none⟩]) (.ret)) (.skip))) (.seq (.reg [mv 9 0,mv 10 3,⟨some 11,.convert T0 T1 (.tmp 10),none⟩,cal 12 F1 [9,11],asg 4 12]) (.seq (.reg [mv 13 4,asg 2 13]) (.ret)))))
theorem rStr_ok {TR gb F0 F1 T0 T1 T2 T3 : Nat} (hTR : R.TR = TR) (hR : rdOK P R = true) (h0k : intK P T0 = some .i16) (h1k : intK P T1 = some .i64) (hS : bstrB P T2 T3 = true) (hF : RC P TR gb F0 (pInt 2) (fun v => ∃ n, v = .int .i16 n) (fun _ _ n v => v = .int .i16 n)) (hG : SpC P TR F1) (hf : P.funcs[f]? = some fn) (hb : fn.body.map strip = some (sc_RStr T0 T1 T2 T3 F0 F1)) (hnm : (fn.name == "runtime.NumGoroutine") = false) (hn : fn.ntmps = 11) (hr : fn.results = #[.tmp 2]) :
    RC P TR gb f (pPrim false false .str) (tyP false .str) (okP false .str):=by
  subst hTR
  have hst:=rd_facts hR
  refine ⟨fnOK_of hf hb hnm,fun w S rb st hgb hrd hsrc=>?_⟩
  refine fCa hf hb hn (by simp) fun a0 hs hd ha=>?_
  have h0:=ha 0 _ rfl
  simp only [List.getElem_toArray,List.getElem_cons_zero,List.getElem_cons_succ] at h0
  refine SC.wp_seq (SC.wp_reg ?_)
  repeat (apply ops_1;(focus (simp (disch:=(try simp only [sPu]);omega) ;try rfl)))
  refine oNi (SC.wp_seq (SC.wp_reg ?_))
  iterate 1 (apply ops_1;(focus (simp (disch:=(try simp only [sPu]);omega) [h0];try rfl)))
  refine ops_call hF.1 (hF.2 w S rb st hgb hrd hsrc) (by simp (disch:=(try simp only [sPu]);omega) [h0]) ?_
  rintro e w1 ⟨v,rfl,q1,q2,⟨n,rfl⟩,q4⟩
  refine ⟨_,rfl,?_⟩
  repeat (apply ops_1;(focus (simp (disch:=(try simp only [sPu]);omega) [h0k,h1k];try rfl)))
  refine oNi ?_
  simp only [Exit.then]
  have hsrc1:∀ sb,S=some sb→sb ≠ rb∧sb < w1.heap.size:=fun sb h=>⟨(hsrc sb h).1,Nat.lt_of_lt_of_le (hsrc sb h).2 q2.size⟩
  have q1:RdAt R.TR w1 S rb (after st (pCount false 2)):=q1
  have hcnt2:=cnt_int (k:=2) (by omega) q4
  have hcnt:=fun b x r hb hp=>(hcnt2 b x r hb hp).1
  have haft:after st (pPrim false false .str)=after (after st (pCount false 2)) (pSpan (IntKind.i64.wrap n)):=by
    simp only [pPrim]
    refine after_prim fun b x r hb hp=>?_
    simp only [Bool.false_and,Bool.false_eq_true,if_false]
    rw [hcnt b x r hb hp]
    exact after_map
  refine SC.wp_seq (SC.wp_reg ?_)
  iterate 3 (apply ops_1;(focus (simp (disch:=(try simp only [sPu]);omega) [h0,h0k,h1k];try rfl)))
  refine ops_call hG.1 (hG.2 w1 S rb _ (IntKind.i64.wrap n) q1 hsrc1) (by simp (disch:=(try simp only [sPu]);omega) [h0]) ?_
  rintro e w2 ⟨S',base,cap,x,rfl,z1,z2,z3,z4,-⟩
  refine ⟨_,rfl,?_⟩
  refine oNo rfl (opw_str (cap:=cap) (base:=base) hS (by simp (disch:=(try simp only [sPu]);omega)) z3 ?_)
  repeat (apply ops_1;(focus (simp (disch:=(try simp only [sPu]);omega) ;try rfl)))
  refine oNi (SC.wp_ret ?_)
  refine ret_tmp hr (by simp [dPu,hd]) ⟨_,rfl,by rw [haft];exact z1,q2.trans z2,?_,fun b t r hb hp=>?_⟩
  · simp only [tyP,Bool.false_eq_true,if_false]
    exact ⟨_,by simp (disch:=(try simp only [sPu]);omega);rfl⟩
  · simp only [pPrim] at hp
    obtain ⟨l,r1,k1,k2⟩:=rThen_some hp
    simp only [Bool.false_and,Bool.false_eq_true,if_false] at k2
    obtain ⟨s,r2,k3,k4⟩:=rThen_some k2
    obtain ⟨rfl,rfl⟩:=rOk_some k4
    subst hb
    have hx:=z4 r1 s _ (after_ok k1) (by rw [hcnt _ _ _ rfl k1];exact k3)
    intro hm
    refine ⟨⟨x.toArray⟩,by simp (disch:=(try simp only [sPu]);omega),?_,hm⟩
    simp [tS,Tree.s,hx.1]
theorem rCStr_ok {TR gb F0 F1 T0 T1 T2 T3 : Nat} (hTR : R.TR = TR) (hR : rdOK P R = true) (h0k : intK P T0 = some .u32) (h1k : intK P T1 = some .i64) (hS : bstrB P T2 T3 = true) (hF : RC P TR gb F0 pUv (fun v => ∃ n, v = .int .u32 n) (fun _ _ n v => v = .int .u32 (n : Int))) (hG : SpC P TR F1) (hf : P.funcs[f]? = some fn) (hb : fn.body.map strip = some (sc_RCStr T0 T1 T2 T3 F0 F1)) (hnm : (fn.name == "runtime.NumGoroutine") = false) (hn : fn.ntmps = 12) (hr : fn.results = #[.tmp 2]) :
    RC P TR gb f (pPrim true false .str) (tyP false .str) (okP false .str):=by
  subst hTR
  have hst:=rd_facts hR
  refine ⟨fnOK_of hf hb hnm,fun w S rb st hgb hrd hsrc=>?_⟩
  refine fCa hf hb hn (by simp) fun a0 hs hd ha=>?_
  have h0:=ha 0 _ rfl
  simp only [List.getElem_toArray,List.getElem_cons_zero,List.getElem_cons_succ] at h0
  refine SC.wp_seq (SC.wp_reg ?_)
  repeat (apply ops_1;(focus (simp (disch:=(try simp only [sPu]);omega) ;try rfl)))
  refine oNi (SC.wp_seq (SC.wp_reg ?_))
  iterate 1 (apply ops_1;(focus (simp (disch:=(try simp only [sPu]);omega) [h0];try rfl)))
  refine ops_call hF.1 (hF.2 w S rb st hgb hrd hsrc) (by simp (disch:=(try simp only [sPu]);omega) [h0]) ?_
  rintro e w1 ⟨v,rfl,q1,q2,⟨n,rfl⟩,q4⟩
  refine ⟨_,rfl,?_⟩
  repeat (apply ops_1;(focus (simp (disch:=(try simp only [sPu]);omega) [h0k,h1k];try rfl)))
  refine oNi ?_
  simp only [Exit.then]
  have hsrc1:∀ sb,S=some sb→sb ≠ rb∧sb < w1.heap.size:=fun sb h=>⟨(hsrc sb h).1,Nat.lt_of_lt_of_le (hsrc sb h).2 q2.size⟩
  rw [← after_cnt_uv (sz:=2)] at q1
  have hcnt:=cnt_uv (sz:=2) q4
  have haft:after st (pPrim true false .str)=after (after st (pCount true 2)) (pSpan (IntKind.i64.wrap (IntKind.i64.wrap n - 1))):=by
    simp only [pPrim]
    refine after_prim fun b x r hb hp=>?_
    simp only [Bool.false_and,Bool.false_eq_true,if_false]
    rw [hcnt b x r hb hp]
    exact after_map
  refine SC.wp_seq (SC.wp_reg ?_)
  iterate 2 (apply ops_1;(focus (simp (disch:=(try simp only [sPu]);omega) [h0,h0k,h1k];try rfl)))
  refine ops_call hG.1 (hG.2 w1 S rb _ (IntKind.i64.wrap (IntKind.i64.wrap n - 1)) q1 hsrc1) (by simp (disch:=(try simp only [sPu]);omega) [h0]) ?_
  rintro e w2 ⟨S',base,cap,x,rfl,z1,z2,z3,z4,-⟩
  refine ⟨_,rfl,?_⟩
  refine oNo rfl (opw_str (cap:=cap) (base:=base) hS (by simp (disch:=(try simp only [sPu]);omega)) z3 ?_)
  repeat (apply ops_1;(focus (simp (disch:=(try simp only [sPu]);omega) ;try rfl)))
  refine oNi (SC.wp_ret ?_)
  refine ret_tmp hr (by simp [dPu,hd]) ⟨_,rfl,by rw [haft];exact z1,q2.trans z2,?_,fun b t r hb hp=>?_⟩
  · simp only [tyP,Bool.false_eq_true,if_false]
    exact ⟨_,by simp (disch:=(try simp only [sPu]);omega);rfl⟩
  · simp only [pPrim] at hp
    obtain ⟨l,r1,k1,k2⟩:=rThen_some hp
    simp only [Bool.false_and,Bool.false_eq_true,if_false] at k2
    obtain ⟨s,r2,k3,k4⟩:=rThen_some k2
    obtain ⟨rfl,rfl⟩:=rOk_some k4
    subst hb
    have hx:=z4 r1 s _ (after_ok k1) (by rw [hcnt _ _ _ rfl k1];exact k3)
    intro hm
    refine ⟨⟨x.toArray⟩,by simp (disch:=(try simp only [sPu]);omega),?_,hm⟩
    simp [tS,Tree.s,hx.1]
theorem rNStr_ok {TR gb F0 F1 T0 T1 T2 T3 : Nat} (hTR : R.TR = TR) (hR : rdOK P R = true) (h0k : intK P T0 = some .i16) (h1k : intK P T1 = some .i64) (hS : bstrB P T2 T3 = true) (hZ : zeroOne P T3 = true) (hF : RC P TR gb F0 (pInt 2) (fun v => ∃ n, v = .int .i16 n) (fun _ _ n v => v = .int .i16 n)) (hG : SpC P TR F1) (hf : P.funcs[f]? = some fn) (hb : fn.body.map strip = some (sc_RNStr T0 T1 T2 T3 F0 F1)) (hnm : (fn.name == "runtime.NumGoroutine") = false) (hn : fn.ntmps = 14) (hr : fn.results = #[.tmp 2]) :
    RC P TR gb f (pPrim false true .str) (tyP true .str) (okP true .str):=by
  subst hTR
  have hst:=rd_facts hR
  refine ⟨fnOK_of hf hb hnm,fun w S rb st hgb hrd hsrc=>?_⟩
  refine fCa hf hb hn (by simp) fun a0 hs hd ha=>?_
  have h0:=ha 0 _ rfl
  simp only [List.getElem_toArray,List.getElem_cons_zero,List.getElem_cons_succ] at h0
  refine SC.wp_seq (SC.wp_reg ?_)
  repeat (apply ops_1;(focus (simp (disch:=(try simp only [sPu]);omega) ;try rfl)))
  refine oNi (SC.wp_seq (SC.wp_reg ?_))
  iterate 1 (apply ops_1;(focus (simp (disch:=(try simp only [sPu]);omega) [h0];try rfl)))
  refine ops_call hF.1 (hF.2 w S rb st hgb hrd hsrc) (by simp (disch:=(try simp only [sPu]);omega) [h0]) ?_
  rintro e w1 ⟨v,rfl,q1,q2,⟨n,rfl⟩,q4⟩
  refine ⟨_,rfl,?_⟩
  repeat (apply ops_1;(focus (simp (disch:=(try simp only [sPu]);omega) [h0k,h1k];try rfl)))
  refine oNi ?_
  simp only [Exit.then]
  have hsrc1:∀ sb,S=some sb→sb ≠ rb∧sb < w1.heap.size:=fun sb h=>⟨(hsrc sb h).1,Nat.lt_of_lt_of_le (hsrc sb h).2 q2.size⟩
  have q1:RdAt R.TR w1 S rb (after st (pCount false 2)):=q1
  have hcnt2:=cnt_int (k:=2) (by omega) q4
  have hcnt:=fun b x r hb hp=>(hcnt2 b x r hb hp).1
  obtain ⟨hZ1,iz,z,hiz,hzz,hz1⟩:=zeroOne_of hZ
  refine SC.wp_seq (SC.wp_seq (SC.wp_reg ?_))
  repeat (apply ops_1;(focus (simp (disch:=(try simp only [sPu]);omega) ;try rfl)))
  refine oNi (SC.wp_cond (t:=decide (n < 0)) (by simp (disch:=(try simp only [sPu]);omega)) ?_)
  refine Decidable.byCases (p:=n < 0) (fun hlt=>?_) (fun hlt=>?_)
  · rw [if_pos (decide_eq_true hlt)]
    refine SC.wp_seq (SC.wp_reg ?_)
    repeat (apply ops_1;(focus (simp (disch:=(try simp only [sPu]);omega) ;try rfl)))
    refine oNi (SC.wp_ret ?_)
    have haft:after st (pPrim false true .str)=after st (pCount false 2):=by
      simp only [pPrim]
      rw [after_prim (q:=rOk ()) fun b x r hb hp=>?_,after_rOk]
      have hx:=(hcnt2 b x r hb hp).2
      rw [if_pos (by simp;omega),after_rOk,after_rOk]
    simp only [Exit.then]
    refine ret_tmp hr (by simp [dPu,hd]) ⟨_,rfl,by rw [haft];exact q1,q2,?_,fun b t r hb hp=>?_⟩
    · simp only [tyP,if_true]
      exact ⟨_,by simp (disch:=(try simp only [sPu]);omega);rfl⟩
    · simp only [pPrim] at hp
      obtain ⟨l,r1,k1,k2⟩:=rThen_some hp
      have hx:=(hcnt2 b l r1 hb k1).2
      rw [if_pos (by simp;omega)] at k2
      obtain ⟨rfl,rfl⟩:=rOk_some k2
      intro hm
      simp only [reduceCtorEq,if_false,PVal,if_true,tNull,Tree.null]
      simp (disch:=(try simp only [sPu]);omega)
  rw [if_neg (by rw [decide_eq_false hlt];simp)]
  refine SC.wp_skip ?_
  simp only [Exit.then]
  have haft:after st (pPrim false true .str)=after (after st (pCount false 2)) (pSpan (IntKind.i64.wrap n)):=by
    simp only [pPrim]
    refine after_prim fun b x r hb hp=>?_
    have hx:=(hcnt2 b x r hb hp).2
    rw [if_neg (by simp;omega),hcnt b x r hb hp]
    exact after_map
  refine SC.wp_seq (SC.wp_reg ?_)
  iterate 3 (apply ops_1;(focus (simp (disch:=(try simp only [sPu]);omega) [h0,h0k,h1k];try rfl)))
  refine ops_call hG.1 (hG.2 w1 S rb _ (IntKind.i64.wrap n) q1 hsrc1) (by simp (disch:=(try simp only [sPu]);omega) [h0]) ?_
  rintro e w2 ⟨S',base,cap,x,rfl,z1,z2,z3,z4,-⟩
  refine ⟨_,rfl,?_⟩
  refine oNo rfl (opw_str (cap:=cap) (base:=base) hS (by simp (disch:=(try simp only [sPu]);omega)) z3 ?_)
  refine oNo rfl (opw_alloc hiz hzz ?_)
  have hnew:=heap_alloc_new w2 (.cells z.cells T3)
  refine ops_stR (b:=w2.heap.size) (i:=0) (v:=.string ⟨x.toArray⟩) hZ1 (by simp (disch:=(try simp only [sPu]);omega)) (by simp (disch:=(try simp only [sPu]);omega)) rfl hnew (by omega) (oNi ?_)
  simp only [Exit.then]
  refine SC.wp_seq (SC.wp_reg ?_)
  repeat (apply ops_1;(focus (simp (disch:=(try simp only [sPu]);omega) ;try rfl)))
  refine oNi (SC.wp_ret ?_)
  have hlt2:rb < w2.heap.size:=RdAt.lt z1
  have hon:Only rb w ((w2.alloc (.cells z.cells T3)).setRow w2.heap.size (z.cells.setIfInBounds 0 (.string ⟨x.toArray⟩))):=((q2.trans z2).alloc _).own (by have:=(q2.trans z2).size;omega) _
  have hrow3:=setRow_heap _ _ _ (z.cells.setIfInBounds 0 (.string ⟨x.toArray⟩)) _ _ hnew
  have hbl:∀ k,k < w2.heap.size→((w2.alloc (.cells z.cells T3)).setRow w2.heap.size (z.cells.setIfInBounds 0 (.string ⟨x.toArray⟩))).heap[k]?=w2.heap[k]?:=fun k hk=>by
    rw [setRow_other _ _ _ _ (by omega)]
    exact Below.heap_alloc _ _ _ hk
  have hsrc2:∀ sb,S=some sb→sb < w2.heap.size:=fun sb h=>Nat.lt_of_lt_of_le (hsrc1 sb h).2 z2.size
  refine ret_tmp hr (by simp [dPu,hd]) ⟨_,rfl,by rw [haft];exact RdAt.frame z1 (hbl _ hlt2) (fun sb h=>hbl _ (hsrc2 sb h)),hon,?_,fun b t r hb hp=>?_⟩
  · simp only [tyP,if_true]
    exact ⟨_,by simp (disch:=(try simp only [sPu]);omega);rfl⟩
  · simp only [pPrim] at hp
    obtain ⟨l,r1,k1,k2⟩:=rThen_some hp
    have hx:=(hcnt2 b l r1 hb k1).2
    rw [if_neg (by simp;omega)] at k2
    obtain ⟨s,r2,k3,k4⟩:=rThen_some k2
    obtain ⟨rfl,rfl⟩:=rOk_some k4
    subst hb
    have hxs:=z4 r1 s _ (after_ok k1) (by rw [hcnt _ _ _ rfl k1];exact k3)
    intro hm
    simp only [reduceCtorEq,if_false,PVal,if_true,tS,Tree.null,Bool.false_eq_true]
    refine ⟨w2.heap.size,0,⟨x.toArray⟩,by simp (disch:=(try simp only [sPu]);omega),.inr ⟨(q2.trans z2).size,by simp⟩,?_,?_,hm⟩
    · rw [cell_of_row _ _ _ _ _ _ hrow3]
      simp [hz1]
    · simp [Tree.s,hxs.1]
theorem rCNStr_ok {TR gb F0 F1 T0 T1 T2 T3 : Nat} (hTR : R.TR = TR) (hR : rdOK P R = true) (h0k : intK P T0 = some .u32) (h1k : intK P T1 = some .i64) (hS : bstrB P T2 T3 = true) (hZ : zeroOne P T3 = true) (hF : RC P TR gb F0 pUv (fun v => ∃ n, v = .int .u32 n) (fun _ _ n v => v = .int .u32 (n : Int))) (hG : SpC P TR F1) (hf : P.funcs[f]? = some fn) (hb : fn.body.map strip = some (sc_RCNStr T0 T1 T2 T3 F0 F1)) (hnm : (fn.name == "runtime.NumGoroutine") = false) (hn : fn.ntmps = 15) (hr : fn.results = #[.tmp 2]) :
    RC P TR gb f (pPrim true true .str) (tyP true .str) (okP true .str):=by
  subst hTR
  have hst:=rd_facts hR
  refine ⟨fnOK_of hf hb hnm,fun w S rb st hgb hrd hsrc=>?_⟩
  refine fCa hf hb hn (by simp) fun a0 hs hd ha=>?_
  have h0:=ha 0 _ rfl
  simp only [List.getElem_toArray,List.getElem_cons_zero,List.getElem_cons_succ] at h0
  refine SC.wp_seq (SC.wp_reg ?_)
  repeat (apply ops_1;(focus (simp (disch:=(try simp only [sPu]);omega) ;try rfl)))
  refine oNi (SC.wp_seq (SC.wp_reg ?_))
  iterate 1 (apply ops_1;(focus (simp (disch:=(try simp only [sPu]);omega) [h0];try rfl)))
  refine ops_call hF.1 (hF.2 w S rb st hgb hrd hsrc) (by simp (disch:=(try simp only [sPu]);omega) [h0]) ?_
  rintro e w1 ⟨v,rfl,q1,q2,⟨n,rfl⟩,q4⟩
  refine ⟨_,rfl,?_⟩
  repeat (apply ops_1;(focus (simp (disch:=(try simp only [sPu]);omega) [h0k,h1k];try rfl)))
  refine oNi ?_
  simp only [Exit.then]
  have hsrc1:∀ sb,S=some sb→sb ≠ rb∧sb < w1.heap.size:=fun sb h=>⟨(hsrc sb h).1,Nat.lt_of_lt_of_le (hsrc sb h).2 q2.size⟩
  rw [← after_cnt_uv (sz:=2)] at q1
  have hcnt:=cnt_uv (sz:=2) q4
  obtain ⟨hZ1,iz,z,hiz,hzz,hz1⟩:=zeroOne_of hZ
  refine SC.wp_seq (SC.wp_seq (SC.wp_reg ?_))
  repeat (apply ops_1;(focus (simp (disch:=(try simp only [sPu]);omega) ;try rfl)))
  refine oNi (SC.wp_cond (t:=decide (IntKind.i64.wrap (IntKind.i64.wrap n - 1) < 0)) (by simp (disch:=(try simp only [sPu]);omega)) ?_)
  refine Decidable.byCases (p:=IntKind.i64.wrap (IntKind.i64.wrap n - 1) < 0) (fun hlt=>?_) (fun hlt=>?_)
  · rw [if_pos (decide_eq_true hlt)]
    refine SC.wp_seq (SC.wp_reg ?_)
    repeat (apply ops_1;(focus (simp (disch:=(try simp only [sPu]);omega) ;try rfl)))
    refine oNi (SC.wp_ret ?_)
    have haft:after st (pPrim true true .str)=after st (pCount true 2):=by
      simp only [pPrim]
      rw [after_prim (q:=rOk ()) fun b x r hb hp=>?_,after_rOk]
      have hx:=hcnt b x r hb hp
      rw [if_pos (by simp;omega),after_rOk,after_rOk]
    simp only [Exit.then]
    refine ret_tmp hr (by simp [dPu,hd]) ⟨_,rfl,by rw [haft];exact q1,q2,?_,fun b t r hb hp=>?_⟩
    · simp only [tyP,if_true]
      exact ⟨_,by simp (disch:=(try simp only [sPu]);omega);rfl⟩
    · simp only [pPrim] at hp
      obtain ⟨l,r1,k1,k2⟩:=rThen_some hp
      have hx:=hcnt b l r1 hb k1
      rw [if_pos (by simp;omega)] at k2
      obtain ⟨rfl,rfl⟩:=rOk_some k2
      intro hm
      simp only [reduceCtorEq,if_false,PVal,if_true,tNull,Tree.null]
      simp (disch:=(try simp only [sPu]);omega)
  rw [if_neg (by rw [decide_eq_false hlt];simp)]
  refine SC.wp_skip ?_
  simp only [Exit.then]
  have haft:after st (pPrim true true .str)=after (after st (pCount true 2)) (pSpan (IntKind.i64.wrap (IntKind.i64.wrap n - 1))):=by
    simp only [pPrim]
    refine after_prim fun b x r hb hp=>?_
    have hx:=hcnt b x r hb hp
    rw [if_neg (by simp;omega),hcnt b x r hb hp]
    exact after_map
  refine SC.wp_seq (SC.wp_reg ?_)
  iterate 2 (apply ops_1;(focus (simp (disch:=(try simp only [sPu]);omega) [h0,h0k,h1k];try rfl)))
  refine ops_call hG.1 (hG.2 w1 S rb _ (IntKind.i64.wrap (IntKind.i64.wrap n - 1)) q1 hsrc1) (by simp (disch:=(try simp only [sPu]);omega) [h0]) ?_
  rintro e w2 ⟨S',base,cap,x,rfl,z1,z2,z3,z4,-⟩
  refine ⟨_,rfl,?_⟩
  refine oNo rfl (opw_str (cap:=cap) (base:=base) hS (by simp (disch:=(try simp only [sPu]);omega)) z3 ?_)
  refine oNo rfl (opw_alloc hiz hzz ?_)
  have hnew:=heap_alloc_new w2 (.cells z.cells T3)
  refine ops_stR (b:=w2.heap.size) (i:=0) (v:=.string ⟨x.toArray⟩) hZ1 (by simp (disch:=(try simp only [sPu]);omega)) (by simp (disch:=(try simp only [sPu]);omega)) rfl hnew (by omega) (oNi ?_)
  simp only [Exit.then]
  refine SC.wp_seq (SC.wp_reg ?_)
  repeat (apply ops_1;(focus (simp (disch:=(try simp only [sPu]);omega) ;try rfl)))
  refine oNi (SC.wp_ret ?_)
  have hlt2:rb < w2.heap.size:=RdAt.lt z1
  have hon:Only rb w ((w2.alloc (.cells z.cells T3)).setRow w2.heap.size (z.cells.setIfInBounds 0 (.string ⟨x.toArray⟩))):=((q2.trans z2).alloc _).own (by have:=(q2.trans z2).size;omega) _
  have hrow3:=setRow_heap _ _ _ (z.cells.setIfInBounds 0 (.string ⟨x.toArray⟩)) _ _ hnew
  have hbl:∀ k,k < w2.heap.size→((w2.alloc (.cells z.cells T3)).setRow w2.heap.size (z.cells.setIfInBounds 0 (.string ⟨x.toArray⟩))).heap[k]?=w2.heap[k]?:=fun k hk=>by
    rw [setRow_other _ _ _ _ (by omega)]
    exact Below.heap_alloc _ _ _ hk
  have hsrc2:∀ sb,S=some sb→sb < w2.heap.size:=fun sb h=>Nat.lt_of_lt_of_le (hsrc1 sb h).2 z2.size
  refine ret_tmp hr (by simp [dPu,hd]) ⟨_,rfl,by rw [haft];exact RdAt.frame z1 (hbl _ hlt2) (fun sb h=>hbl _ (hsrc2 sb h)),hon,?_,fun b t r hb hp=>?_⟩
  · simp only [tyP,if_true]
    exact ⟨_,by simp (disch:=(try simp only [sPu]);omega);rfl⟩
  · simp only [pPrim] at hp
    obtain ⟨l,r1,k1,k2⟩:=rThen_some hp
    have hx:=hcnt b l r1 hb k1
    rw [if_neg (by simp;omega)] at k2
    obtain ⟨s,r2,k3,k4⟩:=rThen_some k2
    obtain ⟨rfl,rfl⟩:=rOk_some k4
    subst hb
    have hxs:=z4 r1 s _ (after_ok k1) (by rw [hcnt _ _ _ rfl k1];exact k3)
    intro hm
    simp only [reduceCtorEq,if_false,PVal,if_true,tS,Tree.null,Bool.false_eq_true]
    refine ⟨w2.heap.size,0,⟨x.toArray⟩,by simp (disch:=(try simp only [sPu]);omega),.inr ⟨(q2.trans z2).size,by simp⟩,?_,?_,hm⟩
    · rw [cell_of_row _ _ _ _ _ _ hrow3]
      simp [hz1]
    · simp [Tree.s,hxs.1]
theorem rBytes_ok {TR gb F0 F1 T0 T1 T2 T3 : Nat} (hTR : R.TR = TR) (hR : rdOK P R = true) (h0k : intK P T0 = some .i32) (h1k : intK P T1 = some .i64) (hsl : sliceB P R.TB R.U8 1 = true) (hz : ∃ i z, P.info? R.U8 = some i ∧ i.zero = some z) (hF : RC P TR gb F0 (pInt 4) (fun v => ∃ n, v = .int .i32 n) (fun _ _ n v => v = .int .i32 n)) (hG : SpC P TR F1) (hf : P.funcs[f]? = some fn) (hb : fn.body.map strip = some (sc_RBytes T0 R.TB T1 F0 F1)) (hnm : (fn.name == "runtime.NumGoroutine") = false) (hn : fn.ntmps = 13) (hr : fn.results = #[.tmp 2]) :
    RC P TR gb f (pPrim false false .bytes) (tyP false .bytes) (okP false .bytes):=by
  subst hTR
  have hst:=rd_facts hR
  refine ⟨fnOK_of hf hb hnm,fun w S rb st hgb hrd hsrc=>?_⟩
  refine fCa hf hb hn (by simp) fun a0 hs hd ha=>?_
  have h0:=ha 0 _ rfl
  simp only [List.getElem_toArray,List.getElem_cons_zero,List.getElem_cons_succ] at h0
  refine SC.wp_seq (SC.wp_reg ?_)
  repeat (apply ops_1;(focus (simp (disch:=(try simp only [sPu]);omega) ;try rfl)))
  refine oNi (SC.wp_seq (SC.wp_reg ?_))
  iterate 1 (apply ops_1;(focus (simp (disch:=(try simp only [sPu]);omega) [h0];try rfl)))
  refine ops_call hF.1 (hF.2 w S rb st hgb hrd hsrc) (by simp (disch:=(try simp only [sPu]);omega) [h0]) ?_
  rintro e w1 ⟨v,rfl,q1,q2,⟨n,rfl⟩,q4⟩
  refine ⟨_,rfl,?_⟩
  repeat (apply ops_1;(focus (simp (disch:=(try simp only [sPu]);omega) [h0k,h1k];try rfl)))
  refine oNi ?_
  simp only [Exit.then]
  have hsrc1:∀ sb,S=some sb→sb ≠ rb∧sb < w1.heap.size:=fun sb h=>⟨(hsrc sb h).1,Nat.lt_of_lt_of_le (hsrc sb h).2 q2.size⟩
  have q1:RdAt R.TR w1 S rb (after st (pCount false 4)):=q1
  have hcnt2:=cnt_int (k:=4) (by omega) q4
  have hcnt:=fun b x r hb hp=>(hcnt2 b x r hb hp).1
  refine SC.wp_seq (SC.wp_seq (SC.wp_reg ?_))
  repeat (apply ops_1;(focus (simp (disch:=(try simp only [sPu]);omega) ;try rfl)))
  refine oNi (SC.wp_cond (t:=n == -1) (by simp (disch:=(try simp only [sPu]);omega)) ?_)
  refine Decidable.byCases (p:=n=-1) (fun hlt=>?_) (fun hlt=>?_)
  · rw [if_pos (by simpa using hlt)]
    have haft:after st (pPrim false false .bytes)=after st (pCount false 4):=by
      simp only [pPrim]
      rw [after_prim (q:=rOk ()) fun b x r hb hp=>?_,after_rOk]
      have hx:=(hcnt2 b x r hb hp).2
      rw [if_neg (by simp),if_pos (by simp;omega),after_rOk,after_rOk]
    refine SC.wp_seq (SC.wp_reg ?_)
    refine oNo rfl (opw_slice00' hsl hz ?_)
    repeat (apply ops_1;(focus (simp (disch:=(try simp only [sPu]);omega) ;try rfl)))
    refine oNi (SC.wp_ret ?_)
    try simp only [Exit.then]
    refine ret_tmp hr (by simp [dPu,hd]) ⟨_,rfl,by rw [haft];exact RdAt.frame q1 (Below.heap_alloc _ _ _ (RdAt.lt q1)) (fun sb h=>Below.heap_alloc _ _ _ (hsrc1 sb h).2),q2.alloc _,⟨some ⟨w1.heap.size,0,none⟩,0,0,by simp (disch:=(try simp only [sPu]);omega)⟩,fun b t r hb hp=>?_⟩
    simp only [pPrim] at hp
    obtain ⟨l,r1,k1,k2⟩:=rThen_some hp
    have hx:=(hcnt2 b l r1 hb k1).2
    rw [if_neg (by simp),if_pos (by simp;omega)] at k2
    obtain ⟨rfl,rfl⟩:=rOk_some k2
    intro hm
    simp only [reduceCtorEq,if_false,PVal,tS,Tree.null,Tree.s,Bool.false_and,Bool.false_eq_true,List.length_nil]
    exact ⟨some ⟨w1.heap.size,0,none⟩,0,by simp (disch:=(try simp only [sPu]);omega),.inr ⟨w1.heap.size,0,rfl,.inr ⟨q2.size,by simp⟩,fun j u hu=>by simp at hu⟩,by decide,fun h=>by cases h⟩
  rw [if_neg (by simpa using hlt)]
  refine SC.wp_skip ?_
  try simp only [Exit.then]
  have haft:after st (pPrim false false .bytes)=after (after st (pCount false 4)) (pSpan (IntKind.i64.wrap n)):=by
    simp only [pPrim]
    refine after_prim fun b x r hb hp=>?_
    have hx:=(hcnt2 b x r hb hp).2
    rw [if_neg (by simp),if_neg (by simp;omega),hcnt b x r hb hp]
    exact after_map
  refine SC.wp_seq (SC.wp_reg ?_)
  iterate 3 (apply ops_1;(focus (simp (disch:=(try simp only [sPu]);omega) [h0,h0k,h1k];try rfl)))
  refine ops_call hG.1 (hG.2 w1 S rb _ (IntKind.i64.wrap n) q1 hsrc1) (by simp (disch:=(try simp only [sPu]);omega) [h0]) ?_
  rintro e w2 ⟨S',base,cap,x,rfl,z1,z2,z3,z4,-⟩
  refine ⟨_,rfl,?_⟩
  repeat (apply ops_1;(focus (simp (disch:=(try simp only [sPu]);omega) ;try rfl)))
  refine oNi (SC.wp_ret ?_)
  try simp only [Exit.then]
  refine ret_tmp hr (by simp [dPu,hd]) ⟨_,rfl,by rw [haft];exact z1,q2.trans z2,⟨base,x.length,cap,by simp (disch:=(try simp only [sPu]);omega)⟩,fun b t r hb hp=>?_⟩
  simp only [pPrim] at hp
  obtain ⟨l,r1,k1,k2⟩:=rThen_some hp
  have hx:=(hcnt2 b l r1 hb k1).2
  rw [if_neg (by simp),if_neg (by simp;omega)] at k2
  obtain ⟨s,r2,k3,k4⟩:=rThen_some k2
  obtain ⟨rfl,rfl⟩:=rOk_some k4
  subst hb
  obtain ⟨rfl,rfl⟩:=z4 r1 s _ (after_ok k1) (by rw [hcnt _ _ _ rfl k1];exact k3)
  intro hm
  simp only [reduceCtorEq,if_false,PVal,tS,Tree.null,Tree.s,Bool.false_and,Bool.false_eq_true]
  exact ⟨base,cap,by simp (disch:=(try simp only [sPu]);omega),bytesAt_src z3 fun sb h=>.inl h,hm,fun h=>by cases h⟩
theorem rCBytes_ok {TR gb F0 F1 T0 T1 T2 T3 : Nat} (hTR : R.TR = TR) (hR : rdOK P R = true) (h0k : intK P T0 = some .u32) (h1k : intK P T1 = some .i64) (hsl : sliceB P R.TB R.U8 1 = true) (hz : ∃ i z, P.info? R.U8 = some i ∧ i.zero = some z) (hF : RC P TR gb F0 pUv (fun v => ∃ n, v = .int .u32 n) (fun _ _ n v => v = .int .u32 (n : Int))) (hG : SpC P TR F1) (hf : P.funcs[f]? = some fn) (hb : fn.body.map strip = some (sc_RCBytes T0 T1 R.TB F0 F1)) (hnm : (fn.name == "runtime.NumGoroutine") = false) (hn : fn.ntmps = 14) (hr : fn.results = #[.tmp 2]) :
    RC P TR gb f (pPrim true false .bytes) (tyP false .bytes) (okP false .bytes):=by
  subst hTR
  have hst:=rd_facts hR
  refine ⟨fnOK_of hf hb hnm,fun w S rb st hgb hrd hsrc=>?_⟩
  refine fCa hf hb hn (by simp) fun a0 hs hd ha=>?_
  have h0:=ha 0 _ rfl
  simp only [List.getElem_toArray,List.getElem_cons_zero,List.getElem_cons_succ] at h0
  refine SC.wp_seq (SC.wp_reg ?_)
  repeat (apply ops_1;(focus (simp (disch:=(try simp only [sPu]);omega) ;try rfl)))
  refine oNi (SC.wp_seq (SC.wp_reg ?_))
  iterate 1 (apply ops_1;(focus (simp (disch:=(try simp only [sPu]);omega) [h0];try rfl)))
  refine ops_call hF.1 (hF.2 w S rb st hgb hrd hsrc) (by simp (disch:=(try simp only [sPu]);omega) [h0]) ?_
  rintro e w1 ⟨v,rfl,q1,q2,⟨n,rfl⟩,q4⟩
  refine ⟨_,rfl,?_⟩
  repeat (apply ops_1;(focus (simp (disch:=(try simp only [sPu]);omega) [h0k,h1k];try rfl)))
  refine oNi ?_
  simp only [Exit.then]
  have hsrc1:∀ sb,S=some sb→sb ≠ rb∧sb < w1.heap.size:=fun sb h=>⟨(hsrc sb h).1,Nat.lt_of_lt_of_le (hsrc sb h).2 q2.size⟩
  rw [← after_cnt_uv (sz:=4)] at q1
  have hcnt:=cnt_uv (sz:=4) q4
  refine SC.wp_seq (SC.wp_seq (SC.wp_reg ?_))
  repeat (apply ops_1;(focus (simp (disch:=(try simp only [sPu]);omega) ;try rfl)))
  refine oNi (SC.wp_cond (t:=IntKind.i64.wrap (IntKind.i64.wrap n - 1) == -1) (by simp (disch:=(try simp only [sPu]);omega)) ?_)
  refine Decidable.byCases (p:=IntKind.i64.wrap (IntKind.i64.wrap n - 1)=-1) (fun hlt=>?_) (fun hlt=>?_)
  · rw [if_pos (by simpa using hlt)]
    have haft:after st (pPrim true false .bytes)=after st (pCount true 4):=by
      simp only [pPrim]
      rw [after_prim (q:=rOk ()) fun b x r hb hp=>?_,after_rOk]
      have hx:=hcnt b x r hb hp
      rw [if_neg (by simp),if_pos (by simp;omega),after_rOk,after_rOk]
    refine SC.wp_seq (SC.wp_reg ?_)
    refine oNo rfl (opw_slice00' hsl hz ?_)
    repeat (apply ops_1;(focus (simp (disch:=(try simp only [sPu]);omega) ;try rfl)))
    refine oNi (SC.wp_ret ?_)
    try simp only [Exit.then]
    refine ret_tmp hr (by simp [dPu,hd]) ⟨_,rfl,by rw [haft];exact RdAt.frame q1 (Below.heap_alloc _ _ _ (RdAt.lt q1)) (fun sb h=>Below.heap_alloc _ _ _ (hsrc1 sb h).2),q2.alloc _,⟨some ⟨w1.heap.size,0,none⟩,0,0,by simp (disch:=(try simp only [sPu]);omega)⟩,fun b t r hb hp=>?_⟩
    simp only [pPrim] at hp
    obtain ⟨l,r1,k1,k2⟩:=rThen_some hp
    have hx:=hcnt b l r1 hb k1
    rw [if_neg (by simp),if_pos (by simp;omega)] at k2
    obtain ⟨rfl,rfl⟩:=rOk_some k2
    intro hm
    simp only [reduceCtorEq,if_false,PVal,tS,Tree.null,Tree.s,Bool.false_and,Bool.false_eq_true,List.length_nil]
    exact ⟨some ⟨w1.heap.size,0,none⟩,0,by simp (disch:=(try simp only [sPu]);omega),.inr ⟨w1.heap.size,0,rfl,.inr ⟨q2.size,by simp⟩,fun j u hu=>by simp at hu⟩,by decide,fun h=>by cases h⟩
  rw [if_neg (by simpa using hlt)]
  refine SC.wp_skip ?_
  try simp only [Exit.then]
  have haft:after st (pPrim true false .bytes)=after (after st (pCount true 4)) (pSpan (IntKind.i64.wrap (IntKind.i64.wrap n - 1))):=by
    simp only [pPrim]
    refine after_prim fun b x r hb hp=>?_
    have hx:=hcnt b x r hb hp
    rw [if_neg (by simp),if_neg (by simp;omega),hcnt b x r hb hp]
    exact after_map
  refine SC.wp_seq (SC.wp_reg ?_)
  iterate 2 (apply ops_1;(focus (simp (disch:=(try simp only [sPu]);omega) [h0,h0k,h1k];try rfl)))
  refine ops_call hG.1 (hG.2 w1 S rb _ (IntKind.i64.wrap (IntKind.i64.wrap n - 1)) q1 hsrc1) (by simp (disch:=(try simp only [sPu]);omega) [h0]) ?_
  rintro e w2 ⟨S',base,cap,x,rfl,z1,z2,z3,z4,-⟩
  refine ⟨_,rfl,?_⟩
  repeat (apply ops_1;(focus (simp (disch:=(try simp only [sPu]);omega) ;try rfl)))
  refine oNi (SC.wp_ret ?_)
  try simp only [Exit.then]
  refine ret_tmp hr (by simp [dPu,hd]) ⟨_,rfl,by rw [haft];exact z1,q2.trans z2,⟨base,x.length,cap,by simp (disch:=(try simp only [sPu]);omega)⟩,fun b t r hb hp=>?_⟩
  simp only [pPrim] at hp
  obtain ⟨l,r1,k1,k2⟩:=rThen_some hp
  have hx:=hcnt b l r1 hb k1
  rw [if_neg (by simp),if_neg (by simp;omega)] at k2
  obtain ⟨s,r2,k3,k4⟩:=rThen_some k2
  obtain ⟨rfl,rfl⟩:=rOk_some k4
  subst hb
  obtain ⟨rfl,rfl⟩:=z4 r1 s _ (after_ok k1) (by rw [hcnt _ _ _ rfl k1];exact k3)
  intro hm
  simp only [reduceCtorEq,if_false,PVal,tS,Tree.null,Tree.s,Bool.false_and,Bool.false_eq_true]
  exact ⟨base,cap,by simp (disch:=(try simp only [sPu]);omega),bytesAt_src z3 fun sb h=>.inl h,hm,fun h=>by cases h⟩
theorem rNBytes_ok {TR gb F0 F1 T0 T1 T2 T3 : Nat} (hTR : R.TR = TR) (hR : rdOK P R = true) (h0k : intK P T0 = some .i32) (h1k : intK P T1 = some .i64)  (hF : RC P TR gb F0 (pInt 4) (fun v => ∃ n, v = .int .i32 n) (fun _ _ n v => v = .int .i32 n)) (hG : SpC P TR F1) (hf : P.funcs[f]? = some fn) (hb : fn.body.map strip = some (sc_RNBytes T0 T1 F0 F1)) (hnm : (fn.name == "runtime.NumGoroutine") = false) (hn : fn.ntmps = 14) (hr : fn.results = #[.tmp 2]) :
    RC P TR gb f (pPrim false true .bytes) (tyP true .bytes) (okP true .bytes):=by
  subst hTR
  have hst:=rd_facts hR
  refine ⟨fnOK_of hf hb hnm,fun w S rb st hgb hrd hsrc=>?_⟩
  refine fCa hf hb hn (by simp) fun a0 hs hd ha=>?_
  have h0:=ha 0 _ rfl
  simp only [List.getElem_toArray,List.getElem_cons_zero,List.getElem_cons_succ] at h0
  refine SC.wp_seq (SC.wp_reg ?_)
  repeat (apply ops_1;(focus (simp (disch:=(try simp only [sPu]);omega) ;try rfl)))
  refine oNi (SC.wp_seq (SC.wp_reg ?_))
  iterate 1 (apply ops_1;(focus (simp (disch:=(try simp only [sPu]);omega) [h0];try rfl)))
  refine ops_call hF.1 (hF.2 w S rb st hgb hrd hsrc) (by simp (disch:=(try simp only [sPu]);omega) [h0]) ?_
  rintro e w1 ⟨v,rfl,q1,q2,⟨n,rfl⟩,q4⟩
  refine ⟨_,rfl,?_⟩
  repeat (apply ops_1;(focus (simp (disch:=(try simp only [sPu]);omega) [h0k,h1k];try rfl)))
  refine oNi ?_
  simp only [Exit.then]
  have hsrc1:∀ sb,S=some sb→sb ≠ rb∧sb < w1.heap.size:=fun sb h=>⟨(hsrc sb h).1,Nat.lt_of_lt_of_le (hsrc sb h).2 q2.size⟩
  have q1:RdAt R.TR w1 S rb (after st (pCount false 4)):=q1
  have hcnt2:=cnt_int (k:=4) (by omega) q4
  have hcnt:=fun b x r hb hp=>(hcnt2 b x r hb hp).1
  refine SC.wp_seq (SC.wp_seq (SC.wp_reg ?_))
  repeat (apply ops_1;(focus (simp (disch:=(try simp only [sPu]);omega) ;try rfl)))
  refine oNi (SC.wp_cond (t:=decide (n < 0)) (by simp (disch:=(try simp only [sPu]);omega)) ?_)
  refine Decidable.byCases (p:=n < 0) (fun hlt=>?_) (fun hlt=>?_)
  · rw [if_pos (by simpa using hlt)]
    have haft:after st (pPrim false true .bytes)=after st (pCount false 4):=by
      simp only [pPrim]
      rw [after_prim (q:=rOk ()) fun b x r hb hp=>?_,after_rOk]
      have hx:=(hcnt2 b x r hb hp).2
      rw [if_pos (by simp;omega),after_rOk,after_rOk]
    refine SC.wp_seq (SC.wp_reg ?_)
    repeat (apply ops_1;(focus (simp (disch:=(try simp only [sPu]);omega) ;try rfl)))
    refine oNi (SC.wp_ret ?_)
    try simp only [Exit.then]
    refine ret_tmp hr (by simp [dPu,hd]) ⟨_,rfl,by rw [haft];exact q1,q2,⟨none,0,0,by simp (disch:=(try simp only [sPu]);omega)⟩,fun b t r hb hp=>?_⟩
    simp only [pPrim] at hp
    obtain ⟨l,r1,k1,k2⟩:=rThen_some hp
    have hx:=(hcnt2 b l r1 hb k1).2
    rw [if_pos (by simp;omega)] at k2
    obtain ⟨rfl,rfl⟩:=rOk_some k2
    intro hm
    simp only [reduceCtorEq,if_false,PVal,if_true,tNull,Tree.null,Bool.true_and]
    exact ⟨none,0,by simp (disch:=(try simp only [sPu]);omega),rfl⟩
  rw [if_neg (by simpa using hlt)]
  refine SC.wp_skip ?_
  try simp only [Exit.then]
  have haft:after st (pPrim false true .bytes)=after (after st (pCount false 4)) (pSpan (IntKind.i64.wrap n)):=by
    simp only [pPrim]
    refine after_prim fun b x r hb hp=>?_
    have hx:=(hcnt2 b x r hb hp).2
    rw [if_neg (by simp;omega),if_neg (by simp),hcnt b x r hb hp]
    exact after_map
  refine SC.wp_seq (SC.wp_reg ?_)
  iterate 3 (apply ops_1;(focus (simp (disch:=(try simp only [sPu]);omega) [h0,h0k,h1k];try rfl)))
  refine ops_call hG.1 (hG.2 w1 S rb _ (IntKind.i64.wrap n) q1 hsrc1) (by simp (disch:=(try simp only [sPu]);omega) [h0]) ?_
  rintro e w2 ⟨S',base,cap,x,rfl,z1,z2,z3,z4,-⟩
  refine ⟨_,rfl,?_⟩
  repeat (apply ops_1;(focus (simp (disch:=(try simp only [sPu]);omega) ;try rfl)))
  refine oNi (SC.wp_seq (SC.wp_reg ?_))
  repeat (apply ops_1;(focus (simp (disch:=(try simp only [sPu]);omega) ;try rfl)))
  refine oNi (SC.wp_ret ?_)
  try simp only [Exit.then]
  refine ret_tmp hr (by simp [dPu,hd]) ⟨_,rfl,by rw [haft];exact z1,q2.trans z2,⟨base,x.length,cap,by simp (disch:=(try simp only [sPu]);omega)⟩,fun b t r hb hp=>?_⟩
  simp only [pPrim] at hp
  obtain ⟨l,r1,k1,k2⟩:=rThen_some hp
  have hx:=(hcnt2 b l r1 hb k1).2
  rw [if_neg (by simp;omega),if_neg (by simp)] at k2
  obtain ⟨s,r2,k3,k4⟩:=rThen_some k2
  obtain ⟨rfl,rfl⟩:=rOk_some k4
  subst hb
  obtain ⟨rfl,rfl⟩:=z4 r1 s _ (after_ok k1) (by rw [hcnt _ _ _ rfl k1];exact k3)
  intro hm
  simp only [reduceCtorEq,if_false,PVal,tS,Tree.null,Tree.s,Bool.true_and,Bool.false_eq_true]
  refine ⟨base,cap,by simp (disch:=(try simp only [sPu]);omega),bytesAt_src z3 fun sb h=>.inl h,hm,fun _=>?_⟩
  obtain ⟨sb,rfl⟩:=src_some hrd k1 (pCount_nil (by omega))
  obtain ⟨q,rfl,-⟩:=z3
  simp
end
end Go.Proofs.YtecdefhecaeclaaDoor.K
namespace Go.Proofs.YtecdefhecaeclaaDoor.K
open Go Go.RowKit Go.Proofs.YtecdefhecaeclaaDoor.T
attribute [local simp] eTm eCo pNo gTp gTn qv qcall vop iop
set_option linter.unusedSimpArgs false
set_option linter.unusedVariables false
set_option maxHeartbeats 2000000
def sc_RArr (R:RTy) (T2 F0:Nat):SC:=.seq (.reg [⟨some 2,.assign (.const (.int .i32 0)),none⟩]) (.seq (.reg [mv 4 0,cal 5 F0 [4],asg 3 5]) (.seq (.seq (.reg [mv 6 0,nilc 7 6,fa 8 R.TR 7 0,ld 9 R.TB 8,lenOp 10 R.TB 9,mv 11 3,⟨some 12,.convert T2 R.I (.tmp 11),none⟩,⟨some 13,.binOp .lss R.I (.tmp 10) (.tmp 12) R.I,none⟩]) (.cond (.tmp 13) (rFail R 14 2 (.int .i32 0)) (.skip))) (.seq (.reg [mv 20 3,asg 2 20]) (.ret))))
def sc_RCArr (R:RTy) (T0 T1 F0:Nat):SC:=.seq (.reg [⟨some 2,.assign (.const (.int .i32 0)),none⟩]) (.seq (.reg [mv 4 0,cal 5 F0 [4],⟨some 6,.convert T0 T1 (.tmp 5),none⟩,⟨some 7,.binOp .sub T1 (.tmp 6) (.const (.int .i32 1)) T1,none⟩,asg 3 7]) (.seq (.seq (.reg [mv 8 0,nilc 9 8,fa 10 R.TR 9 0,ld 11 R.TB 10,lenOp 12 R.TB 11,mv 13 3,⟨some 14,.convert T1 R.I (.tmp 13),none⟩,⟨some 15,.binOp .lss R.I (.tmp 12) (.tmp 14) R.I,none⟩]) (.cond (.tmp 15) (rFail R 16 2 (.int .i32 0)) (.skip))) (.seq (.reg [mv 22 3,asg 2 22]) (.ret))))
def pLen0 (flex:Bool):Rd Int:=if flex then rThen pUv fun n=>rOk (if n=2147483648 then 2147483647 else (if n < 2147483648 then (n:Int) else (n:Int) - 4294967296) - 1) else pInt 4
theorem pLen_eq (flex:Bool):pLen flex=rThen (pLen0 flex) fun l b=>if (b.length:Int) < l then none else some (l,b):=rfl
theorem wrap64_i32 {n m:Int} (h:n=IntKind.i32.wrap m):IntKind.i64.wrap n=n:=by
  subst h
  have:-2147483648≤IntKind.i32.wrap m∧IntKind.i32.wrap m < 2147483648:=by
    simp only [IntKind.wrap,IntKind.bits,IntKind.signed]
    simp
    split <;> omega
  exact wrap64 (by omega) (by omega)
theorem arrCnt_of {n:Nat} (h:n < 4294967296):IntKind.i32.wrap (IntKind.i32.wrap (n:Int) - 1)=if n=2147483648 then 2147483647 else (if n < 2147483648 then (n:Int) else (n:Int) - 4294967296) - 1:=by
  simp only [IntKind.wrap,IntKind.bits,IntKind.signed]
  simp
  split <;> split <;> (try split) <;> (try split) <;> omega
section
variable {P:Program} {R:RTy} {f:FuncId} {fn:Func}
theorem rArr_ok {TR gb F0 T2 : Nat} (hTR : R.TR = TR) (hR : rdOK P R = true) (h2k : intK P T2 = some .i32) (hF : RC P TR gb F0 (pInt 4) (fun v => ∃ n, v = .int .i32 n) (fun _ _ n v => v = .int .i32 n)) (hf : P.funcs[f]? = some fn) (hb : fn.body.map strip = some (sc_RArr R T2 F0)) (hnm : (fn.name == "runtime.NumGoroutine") = false) (hn : fn.ntmps = 21) (hr : fn.results = #[.tmp 2]) :
    RC P TR gb f (pLen false) (fun v=>∃ n,v=.int .i32 n) (fun _ _ n v=>v=.int .i32 n):=by
  subst hTR
  have hst:=rd_facts hR
  refine ⟨fnOK_of hf hb hnm,fun w S rb st hgb hrd hsrc=>?_⟩
  refine fCa hf hb hn (by simp) fun a0 hs hd ha=>?_
  have h0:=ha 0 _ rfl
  simp only [List.getElem_toArray,List.getElem_cons_zero,List.getElem_cons_succ] at h0
  refine SC.wp_seq (SC.wp_reg ?_)
  repeat (apply ops_1;(focus (simp (disch:=(try simp only [sPu]);omega) ;try rfl)))
  refine oNi (SC.wp_seq (SC.wp_reg ?_))
  iterate 1 (apply ops_1;(focus (simp (disch:=(try simp only [sPu]);omega) [h0];try rfl)))
  refine ops_call hF.1 (hF.2 w S rb st hgb hrd hsrc) (by simp (disch:=(try simp only [sPu]);omega) [h0]) ?_
  rintro e w1 ⟨v,rfl,q1,q2,⟨n,rfl⟩,q4⟩
  refine ⟨_,rfl,?_⟩
  repeat (apply ops_1;(focus (simp (disch:=(try simp only [sPu]);omega) ;try rfl)))
  refine oNi ?_
  simp only [Exit.then]
  have q1:RdAt R.TR w1 S rb (after st (pLen0 false)):=q1
  have hcnt:∀ b x r,st=some b→pLen0 false b=some (x,r)→n=x∧IntKind.i64.wrap n=n:=by
    intro b x r hb hp
    have hv:=q4 b x r hb hp
    simp only [Value.int.injEq,true_and] at hv
    subst hv
    have:=pInt_rng (k:=4) (by omega) hp
    exact ⟨rfl,wrap64 (by omega) (by omega)⟩
  obtain ⟨bad,len,base,cap,hrow,hlen⟩:∃ bad len base cap,rdRow R.TR w1 rb (.slice base len cap) bad∧((after st (pLen0 false)=none)∨∃ rest,after st (pLen0 false)=some rest∧len=rest.length):=by
    rcases rdAt_row q1 with ⟨e1,hrow⟩ | ⟨rest,base,cap,e1,hrow,-,-⟩
    · exact ⟨_,_,_,_,hrow,.inl e1⟩
    · exact ⟨_,_,_,_,hrow,.inr ⟨_,e1,rfl⟩⟩
  have hc:=rdRow_cells hrow
  refine SC.wp_seq (SC.wp_seq (SC.wp_reg ?_))
  repeat (apply ops_1;(focus (simp (disch:=(try simp only [sPu]);omega) [hst,h0,hc,h2k];try rfl)))
  refine oNi (SC.wp_cond (t:=decide ((len:Int) < IntKind.i64.wrap n)) (by simp (disch:=(try simp only [sPu]);omega)) ?_)
  have key:(after st (pLen false)=if (len:Int) < IntKind.i64.wrap n then none else after st (pLen0 false)):=by
    rw [pLen_eq]
    cases st with
    | none=>simp [after]
    | some b =>
      cases hp:pLen0 false b with
      | none=>rw [after_then_none (after_no hp),after_no hp];simp
      | some z =>
        obtain ⟨x,r⟩:=z
        obtain ⟨rfl,e2⟩:=hcnt b x r rfl hp
        rw [after_then _ _ _ rfl hp,after_ok hp]
        rcases hlen with e | ⟨rest,e,rfl⟩
        · rw [after_ok hp] at e
          cases e
        · rw [after_ok hp] at e
          cases e
          rw [e2]
          by_cases h:(r.length:Int) < n <;> simp [after,h]
  refine Decidable.byCases (p:=(len:Int) < IntKind.i64.wrap n) (fun hl=>?_) (fun hl=>?_)
  · have hno:after st (pLen false)=none:=by rw [key,if_pos hl]
    rw [if_pos (decide_eq_true hl)]
    refine rFail_ok (S:=S) hR hrow (by simp (disch:=(try simp only [sPu]);omega) [h0]) (by omega) (by simp [sPu,hs]) (by simp [sPu,hs]) fun a' w' z1 z2 z3 z4=>?_
    simp only [Exit.then]
    refine ret_tmp hr (by rw [z1];simp [dPu,hd]) ⟨_,rfl,by rw [hno];exact z3,q2.trans z4,⟨0,z2⟩,fun b x r h hp=>?_⟩
    rw [h,after_ok hp] at hno
    cases hno
  · have hyes:after st (pLen false)=after st (pLen0 false):=by rw [key,if_neg hl]
    rw [if_neg (by rw [decide_eq_false hl];simp)]
    refine SC.wp_skip ?_
    simp only [Exit.then]
    refine SC.wp_seq (SC.wp_reg ?_)
    repeat (apply ops_1;(focus (simp (disch:=(try simp only [sPu]);omega) ;try rfl)))
    refine oNi (SC.wp_ret ?_)
    try simp only [Exit.then]
    refine ret_tmp hr (by simp [dPu,hd]) ⟨_,rfl,by rw [hyes];exact q1,q2,⟨n,by simp (disch:=(try simp only [sPu]);omega)⟩,fun b x r h hp=>?_⟩
    rw [pLen_eq] at hp
    obtain ⟨l,r1,k1,k2⟩:=rThen_some hp
    obtain ⟨rfl,-⟩:=hcnt b l r1 h k1
    split at k2
    · cases k2
    · cases k2
      simp (disch:=(try simp only [sPu]);omega)
theorem rCArr_ok {TR gb F0 T0 T1 : Nat} (hTR : R.TR = TR) (hR : rdOK P R = true) (h0k : intK P T0 = some .u32) (h2k : intK P T1 = some .i32) (hF : RC P TR gb F0 pUv (fun v => ∃ n, v = .int .u32 n) (fun _ _ n v => v = .int .u32 (n : Int))) (hf : P.funcs[f]? = some fn) (hb : fn.body.map strip = some (sc_RCArr R T0 T1 F0)) (hnm : (fn.name == "runtime.NumGoroutine") = false) (hn : fn.ntmps = 23) (hr : fn.results = #[.tmp 2]) :
    RC P TR gb f (pLen true) (fun v=>∃ n,v=.int .i32 n) (fun _ _ n v=>v=.int .i32 n):=by
  subst hTR
  have hst:=rd_facts hR
  refine ⟨fnOK_of hf hb hnm,fun w S rb st hgb hrd hsrc=>?_⟩
  refine fCa hf hb hn (by simp) fun a0 hs hd ha=>?_
  have h0:=ha 0 _ rfl
  simp only [List.getElem_toArray,List.getElem_cons_zero,List.getElem_cons_succ] at h0
  refine SC.wp_seq (SC.wp_reg ?_)
  repeat (apply ops_1;(focus (simp (disch:=(try simp only [sPu]);omega) ;try rfl)))
  refine oNi (SC.wp_seq (SC.wp_reg ?_))
  iterate 1 (apply ops_1;(focus (simp (disch:=(try simp only [sPu]);omega) [h0];try rfl)))
  refine ops_call hF.1 (hF.2 w S rb st hgb hrd hsrc) (by simp (disch:=(try simp only [sPu]);omega) [h0]) ?_
  rintro e w1 ⟨v,rfl,q1,q2,⟨n0,rfl⟩,q4⟩
  refine ⟨_,rfl,?_⟩
  obtain ⟨n,hn⟩:∃ n,n=IntKind.i32.wrap (IntKind.i32.wrap n0 - 1):=⟨_,rfl⟩
  repeat (apply ops_1;(focus (simp (disch:=(try simp only [sPu]);omega) [h0k,h2k,← hn];try rfl)))
  refine oNi ?_
  simp only [Exit.then]
  have q1:RdAt R.TR w1 S rb (after st (pLen0 true)):=by
    have:after st (pLen0 true)=after st pUv:=by simp only [pLen0,if_true];exact after_map
    rw [this];exact q1
  have hcnt:∀ b x r,st=some b→pLen0 true b=some (x,r)→n=x∧IntKind.i64.wrap n=n:=by
    intro b x r hb hp
    refine ⟨?_,wrap64_i32 hn⟩
    simp only [pLen0,if_true] at hp
    obtain ⟨y,r1,k1,k2⟩:=rThen_some hp
    obtain ⟨rfl,-⟩:=rOk_some k2
    have hv:=q4 b y r1 hb k1
    simp only [Value.int.injEq,true_and] at hv
    subst hv
    rw [hn]
    exact arrCnt_of (pUv_facts k1).1
  obtain ⟨bad,len,base,cap,hrow,hlen⟩:∃ bad len base cap,rdRow R.TR w1 rb (.slice base len cap) bad∧((after st (pLen0 true)=none)∨∃ rest,after st (pLen0 true)=some rest∧len=rest.length):=by
    rcases rdAt_row q1 with ⟨e1,hrow⟩ | ⟨rest,base,cap,e1,hrow,-,-⟩
    · exact ⟨_,_,_,_,hrow,.inl e1⟩
    · exact ⟨_,_,_,_,hrow,.inr ⟨_,e1,rfl⟩⟩
  have hc:=rdRow_cells hrow
  refine SC.wp_seq (SC.wp_seq (SC.wp_reg ?_))
  repeat (apply ops_1;(focus (simp (disch:=(try simp only [sPu]);omega) [hst,h0,hc,h2k,← hn];try rfl)))
  refine oNi (SC.wp_cond (t:=decide ((len:Int) < IntKind.i64.wrap n)) (by simp (disch:=(try simp only [sPu]);omega) [← hn]) ?_)
  have key:(after st (pLen true)=if (len:Int) < IntKind.i64.wrap n then none else after st (pLen0 true)):=by
    rw [pLen_eq]
    cases st with
    | none=>simp [after]
    | some b =>
      cases hp:pLen0 true b with
      | none=>rw [after_then_none (after_no hp),after_no hp];simp
      | some z =>
        obtain ⟨x,r⟩:=z
        obtain ⟨rfl,e2⟩:=hcnt b x r rfl hp
        rw [after_then _ _ _ rfl hp,after_ok hp]
        rcases hlen with e | ⟨rest,e,rfl⟩
        · rw [after_ok hp] at e
          cases e
        · rw [after_ok hp] at e
          cases e
          rw [e2]
          by_cases h:(r.length:Int) < n <;> simp [after,h]
  refine Decidable.byCases (p:=(len:Int) < IntKind.i64.wrap n) (fun hl=>?_) (fun hl=>?_)
  · have hno:after st (pLen true)=none:=by rw [key,if_pos hl]
    rw [if_pos (decide_eq_true hl)]
    refine rFail_ok (S:=S) hR hrow (by simp (disch:=(try simp only [sPu]);omega) [h0]) (by omega) (by simp [sPu,hs]) (by simp [sPu,hs]) fun a' w' z1 z2 z3 z4=>?_
    simp only [Exit.then]
    refine ret_tmp hr (by rw [z1];simp [dPu,hd]) ⟨_,rfl,by rw [hno];exact z3,q2.trans z4,⟨0,z2⟩,fun b x r h hp=>?_⟩
    rw [h,after_ok hp] at hno
    cases hno
  · have hyes:after st (pLen true)=after st (pLen0 true):=by rw [key,if_neg hl]
    rw [if_neg (by rw [decide_eq_false hl];simp)]
    refine SC.wp_skip ?_
    simp only [Exit.then]
    refine SC.wp_seq (SC.wp_reg ?_)
    repeat (apply ops_1;(focus (simp (disch:=(try simp only [sPu]);omega) ;try rfl)))
    refine oNi (SC.wp_ret ?_)
    try simp only [Exit.then]
    refine ret_tmp hr (by simp [dPu,hd]) ⟨_,rfl,by rw [hyes];exact q1,q2,⟨n,by simp (disch:=(try simp only [sPu]);omega) [hn]⟩,fun b x r h hp=>?_⟩
    rw [pLen_eq] at hp
    obtain ⟨l,r1,k1,k2⟩:=rThen_some hp
    obtain ⟨rfl,-⟩:=hcnt b l r1 h k1
    split at k2
    · cases k2
    · cases k2
      simp (disch:=(try simp only [sPu]);omega) [hn]
end
section
variable {P:Program} {TR gb:Nat} {f:FuncId}
theorem num_bool (h:RC P TR gb f (pFix 1) (fun v=>∃ x,v=.bool x) (fun _ _ n v=>v=.bool (n != 0))):RC P TR gb f (pPrim false false .bool) (tyP false .bool) (okP false .bool):=by
  refine RC.map (g:=fun n:Nat=>tN (if n=0 then 0 else 1)) h (fun v hv=>hv) fun w F n v hv _=>?_
  refine ⟨n != 0,hv,?_⟩
  by_cases h0:n=0 <;> simp [h0,tN,Tree.n]
theorem num_i8 (h:RC P TR gb f (pInt 1) (fun v=>∃ n,v=.int .i8 n) (fun _ _ n v=>v=.int .i8 n)):RC P TR gb f (pPrim false false .i8) (tyP false .i8) (okP false .i8) :=
  RC.map (g:=tN) h (fun v hv=>hv) fun w F n v hv _=>hv
theorem num_i16 (h:RC P TR gb f (pInt 2) (fun v=>∃ n,v=.int .i16 n) (fun _ _ n v=>v=.int .i16 n)):RC P TR gb f (pPrim false false .i16) (tyP false .i16) (okP false .i16) :=
  RC.map (g:=tN) h (fun v hv=>hv) fun w F n v hv _=>hv
theorem num_i32 (h:RC P TR gb f (pInt 4) (fun v=>∃ n,v=.int .i32 n) (fun _ _ n v=>v=.int .i32 n)):RC P TR gb f (pPrim false false .i32) (tyP false .i32) (okP false .i32) :=
  RC.map (g:=tN) h (fun v hv=>hv) fun w F n v hv _=>hv
theorem num_i64 (h:RC P TR gb f (pInt 8) (fun v=>∃ n,v=.int .i64 n) (fun _ _ n v=>v=.int .i64 n)):RC P TR gb f (pPrim false false .i64) (tyP false .i64) (okP false .i64) :=
  RC.map (g:=tN) h (fun v hv=>hv) fun w F n v hv _=>hv
theorem num_u16 (h:RC P TR gb f (pFix 2) (fun v=>∃ n,v=.int .u16 n) (fun _ _ n v=>v=.int .u16 (n:Int))):RC P TR gb f (pPrim false false .u16) (tyP false .u16) (okP false .u16) :=
  RC.map (g:=fun n:Nat=>tN n) h (fun v hv=>hv) fun w F n v hv _=>hv
end
end Go.Proofs.YtecdefhecaeclaaDoor.K
