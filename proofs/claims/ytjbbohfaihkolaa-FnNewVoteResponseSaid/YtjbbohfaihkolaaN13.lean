/- Generic texts: V7 V8. No condition. -/
import Derived.Test.YtjbbohfaihkolaaN12
namespace Go.Proofs.Ytjbbohfaihkolaa.K
open Go Go.RowKit Go.Proofs.Ytjbbohfaihkolaa.T
attribute [local simp] eTm eCo pNo gTp gTn qv qcall vop iop
set_option linter.unusedSimpArgs false
set_option linter.unusedVariables false
set_option maxHeartbeats 4000000
def sc_VoteAppend (T0 T1 T2 T3 T10 T11 T12 F0 F1 F7 F8 F9:Nat) (BA BB BC BD:SC):SC:=.seq (.reg [⟨some 4,.assign (.const (.slice none 0 0)),none⟩]) (.seq (.reg [mv 31 0,nilc 32 31,fa 33 T0 32 0,ld 34 T1 33,asg 5 34]) (.seq (.reg [mv 35 5]) (.seq (.reg [mv 36 5,⟨some 37,.binOp .geq T1 (.tmp 36) (.const (.int .i16 0)) T1,none⟩,asg 6 37]) (.seq (.reg [mv 38 6]) (.seq (.seq (.reg [mv 39 0,nilc 40 39,fa 41 T0 40 1,ld 42 T1 41,asg 7 42]) (.reg [mv 43 1,mv 44 7,cal 45 F0 [43,44],asg 1 45])) (.seq (.seq (.reg [mv 46 0,nilc 47 46,fa 48 T0 47 2,ld 49 T2 48,asg 8 49]) (.seq (.seq (.reg [mv 50 6]) (.cond (.tmp 50) (.reg [mv 51 1,mv 52 8,lenOp 53 T2 52,cal 54 F1 [51,53],asg 1 54]) BA)) (.seq (.reg [mv 59 8,lenOp 60 T2 59,⟨some 61,.move (.const (.int .i64 0)),none⟩]) (.block 0 (.loop (.seq (.reg [⟨some 62,.binOp .lss T3 (.tmp 61) (.tmp 60) T3,none⟩]) (.seq (.cond (.tmp 62) (.skip) (.exit 0)) BB))))))) (.seq (.seq (.reg [mv 164 6]) (.cond (.tmp 164) (.seq (.reg [⟨some 20,.assign (.const (.slice none 0 0)),none⟩]) (.seq (.seq (.reg [mv 165 0,nilc 166 165,fa 167 T0 166 3,ld 168 T11 167,lenOp 169 T11 168,⟨some 170,.binOp .gtr T3 (.tmp 169) (.const (.int .i64 0)) T3,none⟩]) (.cond (.tmp 170) BC (.skip))) (.seq (.reg [mv 174 1,mv 175 20,lenOp 176 T12 175,mv 177 0,nilc 178 177,fa 179 T0 178 4,cal 180 F7 [179],⟨some 181,.binOp .add T3 (.tmp 176) (.tmp 180) T3,none⟩,⟨some 182,.convert T3 T10 (.tmp 181),none⟩,cal 183 F8 [174,182],asg 1 183]) (.seq (.seq (.reg [mv 184 20,lenOp 185 T12 184,⟨some 186,.move (.const (.int .i64 0)),none⟩]) (.block 4 (.loop (.seq (.reg [⟨some 187,.binOp .lss T3 (.tmp 186) (.tmp 185) T3,none⟩]) (.seq (.cond (.tmp 187) (.skip) (.exit 4)) BD))))) (.reg [mv 276 0,nilc 277 276,fa 278 T0 277 4,mv 279 1,cal 280 F9 [278,279],asg 1 280]))))) (.skip))) (.seq (.reg [mv 281 1,asg 4 281]) (.ret)))))))))
def outVote:Bytes:=fixed 0 2 ++ (counted true false 0 4 ++ uvarint 0)
section
variable {P:Program} {f:FuncId} {fn:Func}
theorem voteAppend_ok {I:Ids} {G:List (Nat × Bytes)→Prop} {tU8 T0 T1 T2 T3 T10 T11 T12 F0 F1 F7 F8 F9 T:Nat} {BA BB BC BD:SC} (h0G:G []) (hka:KA G P I tU8)
    (e0:F0=I.aI16) (n0:I.aI16 ≠ 0) (e1:F1=I.aCArr) (n1:I.aCArr ≠ 0) (e7:F7=I.tagsLen) (n7:I.tagsLen ≠ 0) (e8:F8=I.aUvar) (n8:I.aUvar ≠ 0) (e9:F9=I.tagsEach) (n9:I.tagsEach ≠ 0)
    (hf0:fieldOff P T0 0=some 0) (hf1:fieldOff P T0 1=some 1) (hf2:fieldOff P T0 2=some 2) (hf3:fieldOff P T0 3=some 3) (hf4:fieldOff P T0 4=some 4) (o1:oneB P T1=true) (k1:intK P T1=some .i16) (o2:oneB P T2=true) (s2:(sliceN P T2).isSome=true) (k3:intK P T3=some .i64) (k10:intK P T10=some .u32) (o11:oneB P T11=true) (s11:(sliceN P T11).isSome=true) (s12:(sliceN P T12).isSome=true)
    (hf:P.funcs[f]?=some fn) (hb:fn.body.map strip=some (sc_VoteAppend T0 T1 T2 T3 T10 T11 T12 F0 F1 F7 F8 F9 BA BB BC BD)) (hn:fn.ntmps=282) (hr:fn.results=#[.tmp 4])
    (w:World) (b:Nat) (v:Int) (hc:w.heap[b]?=some (.cells (#[Value.int .i16 0,.int .i16 0,.slice none 0 0,.slice none 0 0,.map none].setIfInBounds 0 (.int .i16 v)) T (0,0))) (hv0:0≤v) (hv1:v < 32768) :
    Calls P f #[.pointer (some ⟨b,0,none⟩),.slice none 0 0] w fun e w'=>∃ dv,e=.returned dv∧Own tU8 w' w.heap.size dv outVote∧Below w.heap.size w w':=by
  have hrow:w.heap[b]?=some (.cells #[.int .i16 v,.int .i16 0,.slice none 0 0,.slice none 0 0,.map none] T (0,0)):=hc
  clear hc
  have hbl:b < w.heap.size:=(Array.getElem?_eq_some_iff.1 hrow).1
  have hcell:∀ {w':World},Below w.heap.size w w'→∀ j,w'.cell? ⟨b,j,none⟩=#[Value.int .i16 v,.int .i16 0,.slice none 0 0,.slice none 0 0,.map none][j]?:=fun h j=>by
    rw [h.cell hbl];exact cell_of_row _ _ _ _ _ _ hrow
  have hlim:lim=70368744177664:=rfl
  have hdg:decide (v ≥ 0)=true:=decide_eq_true hv0
  have c0:=hka.i16 n0 0
  have c1:=hka.carr n1 0 (by decide)
  have c7:=hka.tagsLen n7
  have c8:=hka.uvar n8 0 (by decide)
  have c9:=hka.tagsEach n9
  rw [← e0] at c0
  rw [← e1] at c1
  rw [← e7] at c7
  rw [← e8] at c8
  rw [← e9] at c9
  have hT:∀ {w':World} (B:Nat),Below w.heap.size w w'→HTags G w' (· < B) b 4 []:=fun B h=>⟨h0G,rfl,by decide,(fun x hx=>by cases hx),.inl ⟨(hcell h 4).trans rfl,rfl⟩⟩
  refine fCa hf hb hn (by simp) fun a0 hs hd ha=>?_
  have h0:=ha 0 _ rfl
  have h1:=ha 1 _ rfl
  simp only [List.getElem_toArray,List.getElem_cons_zero,List.getElem_cons_succ] at h0 h1
  have hw:=hcell (Below.refl w.heap.size w)
  refine SC.wp_seq (SC.wp_reg ?_)
  repeat (apply ops_1;(focus (simp (disch:=(try simp only [sPu]);omega) ;try rfl)))
  refine oNi (SC.wp_seq (SC.wp_reg ?_))
  repeat (apply ops_1;(focus (simp (disch:=(try simp only [sPu]);omega) [h0,hf0,o1,hw];try rfl)))
  refine oNi (SC.wp_seq (SC.wp_reg ?_))
  repeat (apply ops_1;(focus (simp (disch:=(try simp only [sPu]);omega) ;try rfl)))
  refine oNi (SC.wp_seq (SC.wp_reg ?_))
  repeat (apply ops_1;(focus (simp (disch:=(try simp only [sPu]);omega) [k1,hdg];try rfl)))
  refine oNi (SC.wp_seq (SC.wp_reg ?_))
  repeat (apply ops_1;(focus (simp (disch:=(try simp only [sPu]);omega) ;try rfl)))
  refine oNi (SC.wp_seq (SC.wp_seq (SC.wp_reg ?_)))
  repeat (apply ops_1;(focus (simp (disch:=(try simp only [sPu]);omega) [h0,hf1,o1,hw];try rfl)))
  refine oNi ?_
  simp only [Exit.then]
  refine gen_act (fun a=>a.tmps.size=282∧a.defers=[]∧getT a 0=.pointer (some ⟨b,0,none⟩)∧getT a 1=.slice none 0 0∧getT a 6=.bool true∧getT a 7=.int .i16 0) ⟨by simp [sPu,hs],by simp [dPu,hd],by simp (disch:=(try simp only [sPu]);omega) [h0],by simp (disch:=(try simp only [sPu]);omega) [h1],by simp (disch:=(try simp only [sPu]);omega) [hdg],by simp (disch:=(try simp only [sPu]);omega)⟩ ?_
  clear hs hd ha h0 h1
  rintro a1 ⟨z,zd,z0,z1,z6,z7⟩
  refine SC.wp_reg ?_
  iterate 2 (apply ops_1;(focus (simp (disch:=(try simp only [sPu]);omega) [z1,z7];try rfl)))
  refine ops_call (argsV:=#[.slice none 0 0,.int .i16 0]) c0.1 (c0.2 w w.heap.size (.slice none 0 0) [] (own_nil _ _ _) (Nat.le_refl _) (by simp [fixed_length];omega) trivial) (by simp (disch:=(try simp only [sPu]);omega)) ?_
  rintro e w1 ⟨d1,rfl,ho1,hb1,hs1⟩
  refine ⟨_,rfl,?_⟩
  rw [List.nil_append] at ho1
  repeat (apply ops_1;(focus (simp (disch:=(try simp only [sPu]);omega) ;try rfl)))
  refine oNi ?_
  simp only [Exit.then]
  have hw1:=hcell hb1
  refine SC.wp_seq (SC.wp_seq (SC.wp_reg ?_))
  repeat (apply ops_1;(focus (simp (disch:=(try simp only [sPu]);omega) [z0,hf2,o2,hw1];try rfl)))
  refine oNi (SC.wp_seq (SC.wp_seq (SC.wp_reg ?_)))
  repeat (apply ops_1;(focus (simp (disch:=(try simp only [sPu]);omega) [z6];try rfl)))
  refine oNi (SC.wp_cond (t:=true) (by simp (disch:=(try simp only [sPu]);omega)) ?_)
  rw [if_pos rfl]
  refine SC.wp_reg ?_
  iterate 3 (apply ops_1;(focus (simp (disch:=(try simp only [sPu]);omega) [s2];try rfl)))
  have hlc:(counted true false 0 4).length=1:=by simp [counted,uvarint_le]
  have hlu:(uvarint 0).length=1:=by simp [uvarint_le]
  have hlf:(fixed 0 2).length=2:=fixed_length 0 2
  refine ops_call (argsV:=#[d1,.int .i64 ((0:Nat):Int)]) c1.1 (c1.2 w1 w.heap.size d1 (fixed 0 2) ho1 hs1 (by omega) trivial) (by simp (disch:=(try simp only [sPu]);omega)) ?_
  rintro e w2 ⟨d2,rfl,ho2,hb2,hs2⟩
  refine ⟨_,rfl,?_⟩
  repeat (apply ops_1;(focus (simp (disch:=(try simp only [sPu]);omega) ;try rfl)))
  refine oNi ?_
  simp only [Exit.then]
  have hb12:=hb1.trans hb2
  have hw2:=hcell hb12
  refine SC.wp_seq (SC.wp_reg ?_)
  repeat (apply ops_1;(focus (simp (disch:=(try simp only [sPu]);omega) [s2];try rfl)))
  refine oNi ?_
  simp only [Exit.then]
  refine gen_act (fun a=>a.tmps.size=282∧a.defers=[]∧getT a 0=.pointer (some ⟨b,0,none⟩)∧getT a 1=d2∧getT a 6=.bool true∧getT a 60=.int .i64 0∧getT a 61=.int .i64 0) ⟨by simp [sPu,z],by simp [dPu,zd],by simp (disch:=(try simp only [sPu]);omega) [z0],by simp (disch:=(try simp only [sPu]);omega),by simp (disch:=(try simp only [sPu]);omega) [z6],by simp (disch:=(try simp only [sPu]);omega),by simp (disch:=(try simp only [sPu]);omega)⟩ ?_
  clear z zd z0 z1 z6 z7
  rintro a2 ⟨z,zd,z0,z1,z6,z60,z61⟩
  refine SC.wp_block (SC.wp_loop (fun a' w'=>a'=a2∧w'=w2) (fun _ _=>0) ⟨rfl,rfl⟩ ?_)
  rintro _ _ ⟨rfl,rfl⟩
  rename_i a2 w2
  refine SC.wp_seq (SC.wp_reg ?_)
  repeat (apply ops_1;(focus (simp (disch:=(try simp only [sPu]);omega) [k3,z60,z61];try rfl)))
  refine oNi ?_
  simp only [Exit.then]
  refine SC.wp_seq (SC.wp_cond (t:=false) (by simp (disch:=(try simp only [sPu]);omega)) ?_)
  rw [if_neg (by simp)]
  refine SC.wp_exit ?_
  simp only [Exit.then,Exit.inBlock,if_true]
  refine SC.wp_seq (SC.wp_seq (SC.wp_reg ?_))
  repeat (apply ops_1;(focus (simp (disch:=(try simp only [sPu]);omega) [z6];try rfl)))
  refine oNi (SC.wp_cond (t:=true) (by simp (disch:=(try simp only [sPu]);omega)) ?_)
  rw [if_pos rfl]
  refine SC.wp_seq (SC.wp_reg ?_)
  repeat (apply ops_1;(focus (simp (disch:=(try simp only [sPu]);omega) ;try rfl)))
  refine oNi (SC.wp_seq (SC.wp_seq (SC.wp_reg ?_)))
  repeat (apply ops_1;(focus (simp (disch:=(try simp only [sPu]);omega) [z0,hf3,o11,s11,hw2,k3];try rfl)))
  refine oNi (SC.wp_cond (t:=false) (by simp (disch:=(try simp only [sPu]);omega)) ?_)
  rw [if_neg (by simp)]
  refine SC.wp_skip ?_
  simp only [Exit.then]
  refine SC.wp_seq (SC.wp_reg ?_)
  iterate 6 (apply ops_1;(focus (simp (disch:=(try simp only [sPu]);omega) [z0,z1,s12,hf4];try rfl)))
  refine ops_call (argsV:=#[.pointer (some ⟨b,4,none⟩)]) c7.1 (c7.2 w2 (· < w.heap.size) b 4 [] (hT _ hb12)) (by simp (disch:=(try simp only [sPu]);omega)) ?_
  rintro e w3 ⟨rfl,rfl⟩
  refine ⟨_,rfl,?_⟩
  have w00:IntKind.i64.wrap 0=0:=rfl
  have w01:IntKind.u32.wrap 0=0:=rfl
  iterate 2 (apply ops_1;(focus (simp (disch:=(try simp only [sPu]);omega) [k3,k10,w00,w01];try rfl)))
  refine ops_call (argsV:=#[d2,.int .u32 ((0:Nat):Int)]) c8.1 (c8.2 w2 w.heap.size d2 (fixed 0 2 ++ counted true false 0 4) ho2 hs2 (by rw [List.length_append];omega) trivial) (by simp (disch:=(try simp only [sPu]);omega) [z1]) ?_
  rintro e w3 ⟨d3,rfl,ho3,hb3,hs3⟩
  refine ⟨_,rfl,?_⟩
  repeat (apply ops_1;(focus (simp (disch:=(try simp only [sPu]);omega) ;try rfl)))
  refine oNi ?_
  simp only [Exit.then]
  have hb13:=hb12.trans hb3
  refine SC.wp_seq (SC.wp_seq (SC.wp_reg ?_))
  repeat (apply ops_1;(focus (simp (disch:=(try simp only [sPu]);omega) [s12];try rfl)))
  refine oNi ?_
  simp only [Exit.then]
  refine gen_act (fun a=>a.tmps.size=282∧a.defers=[]∧getT a 0=.pointer (some ⟨b,0,none⟩)∧getT a 1=d3∧getT a 185=.int .i64 0∧getT a 186=.int .i64 0) ⟨by simp [sPu,z],by simp [dPu,zd],by simp (disch:=(try simp only [sPu]);omega) [z0],by simp (disch:=(try simp only [sPu]);omega),by simp (disch:=(try simp only [sPu]);omega),by simp (disch:=(try simp only [sPu]);omega)⟩ ?_
  clear z zd z0 z1 z6 z60 z61
  rintro a3 ⟨z,zd,z0,z1,z185,z186⟩
  refine SC.wp_block (SC.wp_loop (fun a' w'=>a'=a3∧w'=w3) (fun _ _=>0) ⟨rfl,rfl⟩ ?_)
  rintro _ _ ⟨rfl,rfl⟩
  rename_i a3 w3
  refine SC.wp_seq (SC.wp_reg ?_)
  repeat (apply ops_1;(focus (simp (disch:=(try simp only [sPu]);omega) [k3,z185,z186];try rfl)))
  refine oNi ?_
  simp only [Exit.then]
  refine SC.wp_seq (SC.wp_cond (t:=false) (by simp (disch:=(try simp only [sPu]);omega)) ?_)
  rw [if_neg (by simp)]
  refine SC.wp_exit ?_
  simp only [Exit.then,Exit.inBlock,if_true]
  refine SC.wp_reg ?_
  iterate 4 (apply ops_1;(focus (simp (disch:=(try simp only [sPu]);omega) [z0,z1,hf4];try rfl)))
  refine ops_call (argsV:=#[.pointer (some ⟨b,4,none⟩),d3]) c9.1 (c9.2 w3 w.heap.size b 4 [] d3 (fixed 0 2 ++ counted true false 0 4 ++ uvarint 0) (hT _ hb13) hbl ho3 hs3 (by simp only [List.flatMap_nil,List.length_append,List.length_nil];omega)) (by simp (disch:=(try simp only [sPu]);omega)) ?_
  rintro e w4 ⟨d4,rfl,ho4,hb4,hs4⟩
  refine ⟨_,rfl,?_⟩
  repeat (apply ops_1;(focus (simp (disch:=(try simp only [sPu]);omega) ;try rfl)))
  refine oNi ?_
  simp only [Exit.then]
  refine SC.wp_seq (SC.wp_reg ?_)
  repeat (apply ops_1;(focus (simp (disch:=(try simp only [sPu]);omega) ;try rfl)))
  refine oNi (SC.wp_ret (ret_tmp hr (by simp [dPu,zd]) ⟨d4,by simp (disch:=(try simp only [sPu]);omega),?_,hb13.trans hb4⟩))
  simpa only [List.flatMap_nil,List.append_nil,List.append_assoc,outVote] using ho4
end
end Go.Proofs.Ytjbbohfaihkolaa.K
namespace Go.Proofs.Ytjbbohfaihkolaa.K
open Go Go.RowKit Go.Proofs.Ytjbbohfaihkolaa.T
set_option linter.unusedSimpArgs false
set_option linter.unusedVariables false
theorem tgVote_ok:TgOK tgVote:=by
  intro x hx
  simp only [tgVote,List.mem_cons,List.not_mem_nil,or_false] at hx
  omega
theorem usVote (fsA fsB:Fs):UsT (fsVote fsA fsB) tgVote (.mk 0 [] false (defL (fsVote fsA fsB)) []):=by
  intro j h ty r hd h0
  match j,hd,h0 with
  | 0,_,h0=>simp [tgVote] at h0
  | 1,_,h0=>simp [tgVote] at h0
  | 2,hd,_ =>
    simp only [fsVote,Fs.drop,Fs.cons.injEq] at hd
    obtain ⟨rfl,rfl,rfl⟩:=hd
    refine ⟨rfl,?_⟩
    simp [fsVote,defL,defT,Tree.l]
  | 3,hd,_=>simp [fsVote,Fs.drop] at hd
  | j+4,hd,_=>simp [fsVote,Fs.drop] at hd
theorem wVote (fsA fsB:Fs) (ver:Nat):outVote=wFsT ver (decide ((0:Int)≤0) && decide ((0:Int)≤(ver:Int))) (fsVote fsA fsB) tgVote (defL (fsVote fsA fsB)) ++ (if (decide ((0:Int)≤0) && decide ((0:Int)≤(ver:Int)))=true then uvarint 0 else []):=by
  have hv:decide ((0:Int)≤(ver:Int))=true:=decide_eq_true (by omega)
  have h0:hdT.has ver=true:=by simp [hdT,Hd.has]
  simp [hv,h0,outVote,fsVote,tgVote,wFsT,defL,defT,wField,wTy,wPrim,PK.width,Tree.n,Tree.l,Tree.null,Hd.isNull,hdT,Hd.has]
theorem outVote_len:outVote.length≤lim:=by
  have hlim:lim=70368744177664:=rfl
  have:outVote.length=4:=by simp [outVote,fixed_length,counted,uvarint_le]
  omega
end Go.Proofs.Ytjbbohfaihkolaa.K
