/- Generic texts: RU1 W8 Z1 Z2 Z6. No condition. -/
import Derived.Test.YtdnpafdgglpagaaGreatDoorN12
import Derived.Laws.IdiomRangeMap
import Derived.ChangeArms
import Derived.Deep.Slices
import Derived.OpenShut
namespace Go.Proofs.YtdnpafdgglpagaaGreatDoor.K
open Go Go.RowKit Go.Proofs.YtdnpafdgglpagaaGreatDoor.T
attribute [local simp] eTm eCo pNo gTp gTn qv qcall vop iop
set_option linter.unusedVariables false
set_option linter.unusedSimpArgs false
set_option maxHeartbeats 4000000
section
variable {P:Program} {X:STy} {f fKn:FuncId} {fn:Func}
theorem unk_ok (hX:stOK P X=true) (hm:P.follows .mixedOrders=true) (hT:TagT P X) (oK:FnOK P fKn) (cK:KnownC P fKn) (hf:P.funcs[f]?=some fn) (hb:fn.body.map strip=some (sc_unknown X.Tgs X.I X.Tg X.U32 fKn)) (hn:fn.ntmps=85) (hr:fn.results=#[.tmp 4]):UnkC (fun _=>True) P f:=by
 intro w F fs kn fv ub u uc hF hfs hlen63 hG hu huc
 obtain ⟨lz,hlz⟩:∃ lz,lz=knK kn:=⟨_,rfl⟩
 have hst:=st_facts hX
 refine fCa hf hb hn (by simp) fun a0 hs hd ha=>?_
 have h0:=ha 0 _ rfl
 have h1:=ha 1 _ rfl
 simp only [List.getElem_toArray,List.getElem_cons_zero,List.getElem_cons_succ] at h0 h1
 refine wSq (wRg ?_)
 repeat (apply ops_1;(focus (simp (disch:=(try simp only [sPu]);omega) ;try rfl)))
 refine oNi (wSq (wRg ?_))
 iterate 1 (apply ops_1;(focus (simp (disch:=(try simp only [sPu]);omega) [h0];try rfl)))
 refine ops_call oK (cK w fs kn fv hfs hlen63) (by simp (disch:=(try simp only [sPu]);omega)) ?_
 rintro e w2 ⟨rfl,hb2⟩
 refine ⟨_,rfl,?_⟩
 clear hlen63
 rw [<- hlz]
 repeat (apply ops_1;(focus (simp (disch:=(try simp only [sPu]);omega) ;try rfl)))
 refine oNi (wSq (wRg ?_))
 repeat (apply ops_1;(focus (simp (disch:=(try simp only [sPu]);omega) ;try rfl)))
 refine oNi (wSq (wSq (wRg ?_)))
 obtain ⟨l,hl⟩:∃ l,l=u.take most:=⟨_,rfl⟩
 have hll:l.length<=u.length:=by rw [hl,List.length_take];omega
 have hlm:l.length<=32767:=by rw [hl,List.length_take];exact Nat.min_le_left _ _
 have hmin:(if (32767:Int) < (u.length:Int) then (32767:Int) else (u.length:Int))=(l.length:Int):=by
  rw [hl,List.length_take,show most=32767 from rfl]
  split <;> omega
 have hmin2:(if (u.length:Int) < 32767 then (u.length:Int) else (32767:Int))=(l.length:Int):=by
  rw [hl,List.length_take,show most=32767 from rfl]
  split <;> omega
 have hlc:(l.length:Int)<=(uc:Int):=by omega
 repeat (apply ops_1;(focus (simp (disch:=(try simp only [sPu]);omega) [hst,h1,hmin,hmin2,hlc];try rfl)))
 refine oNi ?_
 simp only [Exit.then]
 refine gen_act (fun a6=>a6.tmps.size=85/\a6.defers=[]/\getT a6 5=.int .u32 (lz:Int)/\getT a6 6=.slice none 0 0/\getT a6 17=.slice ub l.length uc/\getT a6 18=.int .i64 (l.length:Int)/\getT a6 19=.int .i64 0)
  ⟨by simp [sPu,hs],by simp [dPu,hd],by simp (disch:=(try simp only [sPu]);omega),by simp (disch:=(try simp only [sPu]);omega),by simp (disch:=(try simp only [sPu]);omega),by simp (disch:=(try simp only [sPu]);omega),by simp (disch:=(try simp only [sPu]);omega)⟩ ?_
 rintro a6 ⟨p,pd,p5,p6,p17,p18,p19⟩
 refine wBk (wLp (fun a' w'=>∃ (i:Nat) (acc:List (Nat × Bytes)) (rows:List (Value × Value)) (v:Value),UL X ub uc l w F lz i acc rows v a' w'/\i<=l.length/\acc=((l.take i).filter fun t=>decide (lz<=t.1)).foldl (fun acc t=>insTag t acc) [])
  (fun a' _=>match getT a' 19 with | .int _ m=>(l.length - m).toNat | _=>0) ⟨0,[],[],.slice none 0 0,⟨p,pd,p5,p6,p17,p18,p19,⟨rfl,fun i x r hx=>by simp at hx⟩,Out2.nil _ _ _,hb2⟩,Nat.zero_le _,rfl⟩ ?_)
 clear p pd p5 p6 p17 p18 p19 a6
 rintro a w3 ⟨i,acc,rows,v,hul,hil,hacc⟩
 have hul':=hul
 obtain ⟨p,pd,p5,p6,p17,p18,p19,hrows,hout,hbel⟩:=hul'
 refine wSq (wRg ?_)
 repeat (apply ops_1;(focus (simp (disch:=(try simp only [sPu]);omega) [p18,p19];try rfl)))
 refine oNi ?_
 simp only [Exit.then]
 refine wSq (wCd (t:=decide ((i:Int) < (l.length:Int))) (by simp (disch:=(try simp only [sPu]);omega)) ?_)
 by_cases hlt:i < l.length
 ·rw [if_pos (decide_eq_true (by omega))]
  refine wSk ?_
  simp only [Exit.then]
  have hiu:u[i]?=some l[i]:=by
   have:(u.take most)[i]?=some l[i]:=by rw [<- hl];exact List.getElem?_eq_getElem hlt
   rw [List.getElem?_take] at this
   split at this
   ·exact this
   ·cases this
  rcases hu with hu | ⟨b,o,hub,hbB,hall⟩
  ·rw [hu] at hiu
   simp at hiu
  obtain ⟨hx4,vb,vc,hrng,hbs,hvc⟩:=hall i _ hiu
  have haccl:acc.length<=32767:=by
   rw [hacc]
   have h1:=foldl_ins_length ((l.take i).filter fun t=>decide (lz<=t.1)) []
   have h2:=List.length_filter_le (fun t:Nat × Bytes=>decide (lz<=t.1)) (l.take i)
   simp only [List.length_take,List.length_nil] at h1 h2
   omega
  refine wSq (unk_body hX hm hT (lz:=lz) (F:=F) (ub:=ub) (uc:=uc) (l:=l) (w:=w) (i:=i) (acc:=acc) (rows:=rows) (v:=v) (b:=b) (o:=o) (x:=l[i]) ⟨by simpa [sPu] using p,by simpa [dPu] using pd,by simp (disch:=(try simp only [sPu]);omega) [p5],by simp (disch:=(try simp only [sPu]);omega) [p6],by simp (disch:=(try simp only [sPu]);omega) [p17],by simp (disch:=(try simp only [sPu]);omega) [p18],by simp (disch:=(try simp only [sPu]);omega) [p19],hrows,hout,hbel⟩ hlt hub (hF _ hbB) hx4 hrng hbs hvc haccl fun a' w' rows' v' hul2=>?_)
  obtain ⟨z,zd,z5,z6,z17,z18,z19,hrows2,hout2,hbel2⟩:=hul2
  simp only [Exit.then]
  have hwi:IntKind.i64.wrap ((i:Int)+1)=(i:Int)+1:=w64q (by omega) (by omega)
  refine wRg ?_
  repeat (apply ops_1;(focus (simp (disch:=(try simp only [sPu]);omega) [z19,hwi];try rfl)))
  refine oNi ?_
  refine ⟨⟨i+1,_,rows',v',⟨by simp [sPu,z],by simp [dPu,zd],by simp (disch:=(try simp only [sPu]);omega) [z5],by simp (disch:=(try simp only [sPu]);omega) [z6],by simp (disch:=(try simp only [sPu]);omega) [z17],by simp (disch:=(try simp only [sPu]);omega) [z18],by simp (disch:=(try simp only [sPu]);omega),hrows2,hout2,hbel2⟩,by omega,?_⟩,?_⟩
  ·rw [List.take_add_one,List.getElem?_eq_getElem hlt,Option.toList_some,List.filter_append,List.foldl_append,<- hacc]
   by_cases hle:lz<=l[i].1
   ·rw [if_pos hle]
    simp [hle]
   ·rw [if_neg hle]
    simp [hle]
  ·have e19:getT a 19=.int .i64 (i:Int):=p19
   simp only [e19]
   simp (disch:=(try simp only [sPu]);omega)
   omega
 ·rw [if_neg (by rw [decide_eq_false (by omega)];simp)]
  refine wXt ?_
  simp only [Exit.then,Exit.inBlock,if_true]
  refine wSq (wRg ?_)
  repeat (apply ops_1;(focus (simp (disch:=(try simp only [sPu]);omega) [p6];try rfl)))
  refine oNi (wRt ?_)
  have hfin:acc=unkK kn u:=by
   rw [hacc,show i=l.length by omega,List.take_length,hl,hlz]
   rfl
  obtain ⟨base,cap,hv,hvc,hv2⟩:=hout.at
  rw [<- hrows.1,hfin] at hv
  refine ret_tmp hr (by simp [dPu,pd]) ⟨base,cap,by rw [<- hv];simp (disch:=(try simp only [sPu]);omega),?_,hbel⟩
  rcases hv2 with h0 | ⟨g,cur,rfl,h2,h3,h4,h5⟩
  ·refine .inl (List.length_eq_zero_iff.1 ?_)
   rw [<- hfin,hrows.1,h0]
   rfl
  ·refine .inr ⟨g,0,rfl,.inr ⟨h2,(Array.getElem?_eq_some_iff.1 h3).1⟩,fun j x hx=>?_⟩
   rw [<- hfin] at hx
   have hjl:j < rows.length:=by rw [<- hrows.1];exact (List.getElem?_eq_some_iff.1 hx).1
   obtain ⟨g',cap',hv',hg',hc',hr'⟩:=hout.read (List.getElem?_eq_getElem hjl)
   obtain ⟨t1,t2,vb,vc,t3,t4,t5⟩:=hrows.2 j x rows[j] hx (List.getElem?_eq_getElem hjl)
   rw [<- hfin,hrows.1] at hv
   rw [hv] at hv'
   cases hv'
   refine ⟨t2,vb,vc,?_,?_,t5⟩
   ·rw [Nat.zero_add,hr',t1,t3]
   ·exact bytesAt_mono t4 (fun k hk=>.inl hk) fun k hk=>hbel.block k (hF k hk)
end
def sc_CNew (T0 F0:Nat):SC:=.seq (.reg [⟨some 0,.alloc T0,none⟩]) (.seq (.reg [⟨some 1,.alloc T0,none⟩]) (.seq (.reg [cal 2 F0 [1]]) (.seq (.reg [ld 3 T0 1,⟨none,.store T0 (.tmp 0) (.tmp 3),none⟩]) (.ret))))
def sc_CSame (T0 T1 T2 F0:Nat):SC:=.seq (.reg [⟨some 2,.box T0 (.tmp 0),none⟩,⟨some 3,.box T0 (.tmp 1),none⟩,⟨some 4,.assign (.const (.bool false)),none⟩]) (.seq (.reg [fa 5 T0 2 0,ld 6 T1 5,fa 7 T0 3 0,ld 8 T1 7,⟨some 9,.binOp .eql T1 (.tmp 6) (.tmp 8) T1,none⟩,mv 10 9,⟨some 11,.fieldAddr T0 (.tmp 2) 1,some (5,true)⟩,⟨some 12,.load T1 (.tmp 11),some (5,true)⟩,⟨some 13,.fieldAddr T0 (.tmp 3) 1,some (5,true)⟩,⟨some 14,.load T1 (.tmp 13),some (5,true)⟩,⟨some 15,.binOp .eql T1 (.tmp 12) (.tmp 14) T1,some (5,true)⟩,⟨some 16,.pick (.tmp 10) (.tmp 15) (.const (.bool false)),none⟩,mv 17 16,⟨some 18,.fieldAddr T0 (.tmp 2) 2,some (12,true)⟩,⟨some 19,.load T2 (.tmp 18),some (12,true)⟩,⟨some 20,.fieldAddr T0 (.tmp 3) 2,some (12,true)⟩,⟨some 21,.load T2 (.tmp 20),some (12,true)⟩,⟨some 22,.call ⟨.value (.func F0),#[(.tmp 19),(.tmp 21)],#[]⟩,some (12,true)⟩,⟨some 23,.pick (.tmp 17) (.tmp 22) (.const (.bool false)),none⟩,asg 4 23]) (.ret))
def sc_TSame (T0 T1 T2 T3:Nat) (B1:SC):SC:=.seq (.reg [⟨some 2,.box T0 (.tmp 0),none⟩,⟨some 3,.box T0 (.tmp 1),none⟩,⟨some 4,.assign (.const (.bool false)),none⟩]) (.seq (.seq (.reg [fa 9 T0 2 0,ld 10 T1 9,⟨some 11,.binOp .eql T1 (.tmp 10) (.const (.map none)) T1,none⟩,fa 12 T0 3 0,ld 13 T1 12,⟨some 14,.binOp .eql T1 (.tmp 13) (.const (.map none)) T1,none⟩,⟨some 15,.binOp .neq T2 (.tmp 11) (.tmp 14) T2,none⟩,mv 16 15,⟨some 17,.fieldAddr T0 (.tmp 2) 0,some (7,false)⟩,⟨some 18,.load T1 (.tmp 17),some (7,false)⟩,⟨some 19,.call ⟨.builtin .len,#[(.tmp 18)],#[T1]⟩,some (7,false)⟩,⟨some 20,.fieldAddr T0 (.tmp 3) 0,some (7,false)⟩,⟨some 21,.load T1 (.tmp 20),some (7,false)⟩,⟨some 22,.call ⟨.builtin .len,#[(.tmp 21)],#[T1]⟩,some (7,false)⟩,⟨some 23,.binOp .neq T3 (.tmp 19) (.tmp 22) T3,some (7,false)⟩,⟨some 24,.pick (.tmp 16) (.const (.bool true)) (.tmp 23),none⟩]) (.cond (.tmp 24) (.seq (.reg [⟨some 4,.assign (.const (.bool false)),none⟩]) (.ret)) (.skip))) (.seq (.seq (.reg [fa 25 T0 2 0,ld 26 T1 25,⟨some 27,.range T1 (.tmp 26),none⟩]) (.block 0 (.loop (.seq (.reg [⟨some 28,.next (.tmp 27) false,none⟩,⟨some 29,.extract (.tmp 28) 0,none⟩]) (.seq (.cond (.tmp 29) (.skip) (.exit 0)) B1))))) (.seq (.reg [⟨some 4,.assign (.const (.bool true)),none⟩]) (.ret))))
theorem dSetAll_find:∀ (out:List (Nat × Value)) (cs:Array Value) (q j:Nat) (v:Value),q+j < cs.size->((out.reverse.find? fun x=>x.1 == j).map (·.2)=some v)->(dSetAll q out cs)[q+j]?=some v
 | [],cs,q,j,v,_,h=>by simp at h
 | x :: r,cs,q,j,v,hs,h=>by
  rw [List.reverse_cons,List.find?_append] at h
  rw [dSetAll]
  cases hr:r.reverse.find? fun x=>x.1 == j with
  | some y =>
   rw [hr] at h
   refine dSetAll_find r _ q j v (by simpa using hs) ?_
   rw [hr]
   simpa using h
  | none =>
   rw [hr] at h
   have hno:∀ y ∈ r,q+y.1 ≠ q+j:=fun y hy e=>by
    have:=List.find?_eq_none.1 hr y (by simpa using hy)
    simp at this
    omega
   rw [dSetAll_other r _ hno]
   simp only [Option.none_or,List.find?_cons,List.find?_nil] at h
   split at h
   ·rename_i hx
    simp at h hx
    subst h
    subst hx
    rw [Array.getElem?_setIfInBounds_self_of_lt hs]
   ·simp at h
section
variable {P:Program} {f:FuncId} {fn:Func}
theorem opw_rangeNil {a:Act} {w:World} {K:Act->World->Prop} {d:Option Tmp} {g:Option (Nat × Bool)} {T:TypeId} {x:Operand} (hT:mapT P T=true) (hx:a.eval x=.map none)
  (h:K (a.put d (.pointer (some ⟨w.heap.size,0,none⟩))) (w.alloc (.mapIter none 0 #[] 0))):opw P ⟨d,.range T x,g⟩ a w K:=by
 unfold mapT at hT
 split at hT <;> try (simp at hT;done)
 rename_i k e hu
 exact oVa (by simp) (fun o ho=>by simp [execOp,ho,hx,run_range_nilMap w T k e hu]) h
theorem opw_nextNil {a:Act} {w:World} {K:Act->World->Prop} {d:Option Tmp} {g:Option (Nat × Bool)} {x:Operand} (hx:a.eval x=.pointer (some ⟨w.heap.size,0,none⟩))
  (h:K (a.put d (.tuple #[.bool false])) (w.alloc (.mapIter none 0 #[] 0))):opw P ⟨d,.next x false,g⟩ a (w.alloc (.mapIter none 0 #[] 0)) K :=
 oVa (by simp) (fun o ho=>by simp [execOp,ho,hx,run_next_nilMap w o.type 0 0 #[]]) h
def boolB (P:Program) (T:Nat):Bool:=match P.underlying T with | some .bool=>true | _=>false
theorem opw_neqb {a:Act} {w:World} {K:Act->World->Prop} {d:Option Tmp} {g:Option (Nat × Bool)} {T T':TypeId} {x y:Operand} {m n:Bool} (hT:boolB P T=true) (hx:a.eval x=.bool m) (hy:a.eval y=.bool n) (h:K (a.put d (.bool (m != n))) w):opw P ⟨d,.binOp .neq T x y T',g⟩ a w K:=by
 unfold boolB at hT
 split at hT <;> try (simp at hT;done)
 rename_i hu
 refine oVa (by simp) (fun p hp=>?_) h
 have e:(eqGuard .neq T x y (.bool m) (.bool n)).run P w=.ok () w:=by unfold eqGuard;split <;> rfl
 have hr:(Op.equal T (.bool m) (.bool n)).run P w=.ok (m == n) w:=by
  have key:∀ dd,(Op.equalIn (dd+1) T (.bool m) (.bool n)).run P w=.ok (m == n) w:=by
   intro dd
   simp [Op.equalIn,run_underlying hu]
  exact key 9999
 simp [execOp,hp,hx,hy,e,binOp,hr]
 cases m <;> cases n <;> rfl
theorem tSame_ok {T0 T1 T2 T3:Nat} {B1:SC} (hA:oneB P T0=false) (hN:aggN P T0=some 1) (hF:fieldOff P T0 0=some 0) (hM:oneB P T1=true) (hMU:mapU P T1=true) (hMT:mapT P T1=true) (hBo:boolB P T2=true)
  (hf:P.funcs[f]?=some fn) (hb:fn.body.map strip=some (sc_TSame T0 T1 T2 T3 B1)) (hn:fn.ntmps=56) (hr:fn.results=#[.tmp 4]) (w:World) (m:Option Nat) :
  Calls P f #[.agg #[.map m],.agg #[.map none]] w fun e w'=>e=.returned (.bool m.isNone)/\Below w.heap.size w w':=by
 refine fCa hf hb hn (by simp) fun a0 hs hd ha=>?_
 have h0:=ha 0 _ rfl
 have h1:=ha 1 _ rfl
 simp only [List.getElem_toArray,List.getElem_cons_zero,List.getElem_cons_succ] at h0 h1
 refine wSq (wRg (ops_box (B:=w.heap.size) (w0:=w) (cs:=#[.map m]) (by rw [eTm,h0]) (Nat.le_refl _) (Below.refl _ _) fun w1 q1 q2 q3 hc q5=>?_))
 refine ops_box (B:=w.heap.size) (w0:=w) (cs:=#[.map none]) (by simp (disch:=(try simp only [sPu]);omega) [h1]) (by omega) q2 fun w2 r1 r2 r3 hd2 r5=>?_
 repeat (apply ops_1;(focus (simp (disch:=(try simp only [sPu]);omega) ;try rfl)))
 refine oNi ?_
 simp only [Exit.then]
 have hc2:w2.cell? ⟨w.heap.size,0,none⟩=some (.map m):=by rw [r1.cell (by show w.heap.size < w1.heap.size;omega)];exact hc 0
 have hd20:w2.cell? ⟨w1.heap.size,0,none⟩=some (.map none):=hd2 0
 rw [q3] at hd20 ⊢
 refine wSq (wSq (wRg ?_))
 iterate 2 (apply ops_1;(focus (simp (disch:=(try simp only [sPu]);omega) [hF,hM,hc2];try rfl)))
 refine oNo rfl (opw_mapNil hMU (m:=m) (by simp (disch:=(try simp only [sPu]);omega)) ?_)
 iterate 2 (apply ops_1;(focus (simp (disch:=(try simp only [sPu]);omega) [hF,hM,hd20];try rfl)))
 refine oNo rfl (opw_mapNil hMU (m:=none) (by rw [eTm,gTp (by (try simp only [sPu]);omega)]) ?_)
 refine oNo rfl (opw_neqb (m:=m.isNone) (n:=true) hBo (by simp (disch:=(try simp only [sPu]);omega)) (by simp (disch:=(try simp only [sPu]);omega)) ?_)
 cases m with
 | some r =>
  repeat (first | (apply ops_1;(focus (simp (disch:=(try simp only [sPu]);omega) ;try rfl))) | (apply ops_y;(focus rfl);(focus ((try simp only [sPu]);omega));(focus (simp (disch:=(try simp only [sPu]);omega);done));(focus (simp (disch:=(try simp only [sPu]);omega) ;try rfl))) | (apply ops_n;(focus rfl);(focus ((try simp only [sPu]);omega));(focus (first | (left;simp (disch:=(try simp only [sPu]);omega);done) | (right;simp (disch:=(try simp only [sPu]);omega);done)))))
  refine oNi (wCd (t:=true) (by simp (disch:=(try simp only [sPu]);omega)) ?_)
  rw [if_pos rfl]
  refine wSq (wRg ?_)
  repeat (apply ops_1;(focus (simp (disch:=(try simp only [sPu]);omega) ;try rfl)))
  refine oNi (wRt ?_)
  simp only [Exit.then]
  exact ret_tmp hr (by simp [dPu,hd]) ⟨by simp (disch:=(try simp only [sPu]);omega),r2⟩
 | none =>
  iterate 3 (first | (apply ops_1;(focus (simp (disch:=(try simp only [sPu]);omega) [hF,hM,hc2];try rfl))) | (apply ops_y;(focus rfl);(focus ((try simp only [sPu]);omega));(focus (simp (disch:=(try simp only [sPu]);omega) [hF,hM,hc2];done));(focus (simp (disch:=(try simp only [sPu]);omega) [hF,hM,hc2];try rfl))) | (apply ops_n;(focus rfl);(focus ((try simp only [sPu]);omega));(focus (first | (left;simp (disch:=(try simp only [sPu]);omega) [hF,hM,hc2];done) | (right;simp (disch:=(try simp only [sPu]);omega);done)))))
  refine opsw_yes rfl rfl (by (try simp only [sPu]);omega) (by simp (disch:=(try simp only [sPu]);omega)) (opw_lenMapN (v:=.map none) (n:=0) hMT (by simp (disch:=(try simp only [sPu]);omega)) rfl (.inl ⟨rfl,rfl⟩) ?_)
  iterate 2 (first | (apply ops_1;(focus (simp (disch:=(try simp only [sPu]);omega) [hF,hM,hd20];try rfl))) | (apply ops_y;(focus rfl);(focus ((try simp only [sPu]);omega));(focus (simp (disch:=(try simp only [sPu]);omega) [hF,hM,hd20];done));(focus (simp (disch:=(try simp only [sPu]);omega) [hF,hM,hd20];try rfl))) | (apply ops_n;(focus rfl);(focus ((try simp only [sPu]);omega));(focus (first | (left;simp (disch:=(try simp only [sPu]);omega) [hF,hM,hd20];done) | (right;simp (disch:=(try simp only [sPu]);omega);done)))))
  refine opsw_yes rfl rfl (by (try simp only [sPu]);omega) (by simp (disch:=(try simp only [sPu]);omega)) (opw_lenMapN (v:=.map none) (n:=0) hMT (by simp (disch:=(try simp only [sPu]);omega)) rfl (.inl ⟨rfl,rfl⟩) ?_)
  repeat (first | (apply ops_1;(focus (simp (disch:=(try simp only [sPu]);omega) ;try rfl))) | (apply ops_y;(focus rfl);(focus ((try simp only [sPu]);omega));(focus (simp (disch:=(try simp only [sPu]);omega);done));(focus (simp (disch:=(try simp only [sPu]);omega) ;try rfl))) | (apply ops_n;(focus rfl);(focus ((try simp only [sPu]);omega));(focus (first | (left;simp (disch:=(try simp only [sPu]);omega);done) | (right;simp (disch:=(try simp only [sPu]);omega);done)))))
  refine oNi (wCd (t:=false) (by simp (disch:=(try simp only [sPu]);omega)) ?_)
  rw [if_neg (by simp)]
  refine wSk ?_
  simp only [Exit.then]
  refine wSq (wSq (wRg ?_))
  iterate 2 (apply ops_1;(focus (simp (disch:=(try simp only [sPu]);omega) [hF,hM,hc2];try rfl)))
  refine oNo rfl (opw_rangeNil hMT (by simp (disch:=(try simp only [sPu]);omega)) (oNi ?_))
  simp only [Exit.then]
  have r2':Below w.heap.size w (w2.alloc (.mapIter none 0 #[] 0)):=r2.alloc (by omega) _
  refine gen_act (fun a=>a.tmps.size=56/\a.defers=[]/\getT a 27=.pointer (some ⟨w2.heap.size,0,none⟩)) ⟨by simp [sPu,hs],by simp [dPu,hd],by simp (disch:=(try simp only [sPu]);omega)⟩ ?_
  rintro a3 ⟨p,pd,p27⟩
  refine wBk (wLp (fun a' w'=>a'=a3/\w'=w2.alloc (.mapIter none 0 #[] 0)) (fun _ _=>0) ⟨rfl,rfl⟩ ?_)
  rintro _ _ ⟨rfl,rfl⟩
  refine wSq (wRg (oNo rfl (opw_nextNil (by simp (disch:=(try simp only [sPu]);omega) [p27]) ?_)))
  refine oNo rfl (opw_extract (vs:=#[.bool false]) (v:=.bool false) (by simp (disch:=(try simp only [sPu]);omega)) rfl (oNi ?_))
  simp only [Exit.then]
  refine wSq (wCd (t:=false) (by simp (disch:=(try simp only [sPu]);omega)) ?_)
  rw [if_neg (by simp)]
  refine wXt ?_
  simp only [Exit.then,Exit.inBlock,if_true]
  refine wSq (wRg ?_)
  repeat (apply ops_1;(focus (simp (disch:=(try simp only [sPu]);omega) ;try rfl)))
  refine oNi (wRt ?_)
  try simp only [Exit.then]
  exact ret_tmp hr (by simp [dPu,pd]) ⟨by simp (disch:=(try simp only [sPu]);omega),r2'⟩
theorem cSame_ok {T0 T1 T2 F0:Nat} (hA:oneB P T0=false) (hN:aggN P T0=some 3) (hF0:fieldOff P T0 0=some 0) (hF1:fieldOff P T0 1=some 1) (hF2:fieldOff P T0 2=some 2) (h1:oneB P T1=true) (hI1:intK P T1=some .i32) (h2:oneB P T2=false) (hN2:aggN P T2=some 1)
  (oF:FnOK P F0) (cF:∀ (w:World) (m:Option Nat),Calls P F0 #[.agg #[.map m],.agg #[.map none]] w fun e w'=>e=.returned (.bool m.isNone)/\Below w.heap.size w w')
  (hf:P.funcs[f]?=some fn) (hb:fn.body.map strip=some (sc_CSame T0 T1 T2 F0)) (hn:fn.ntmps=24) (hr:fn.results=#[.tmp 4]) (w:World) (x y:Int) (m:Option Nat) :
  Calls P f #[.agg #[.int .i32 x,.int .i32 y,.map m],.agg #[.int .i32 (-1),.int .i32 (-1),.map none]] w fun e w'=>e=.returned (.bool (decide (x=-1/\y=-1/\m=none)))/\Below w.heap.size w w':=by
 refine fCa hf hb hn (by simp) fun a0 hs hd ha=>?_
 have h0:=ha 0 _ rfl
 have h1':=ha 1 _ rfl
 simp only [List.getElem_toArray,List.getElem_cons_zero,List.getElem_cons_succ] at h0 h1'
 refine wSq (wRg (ops_box (B:=w.heap.size) (w0:=w) (cs:=#[.int .i32 x,.int .i32 y,.map m]) (by rw [eTm,h0]) (Nat.le_refl _) (Below.refl _ _) fun w1 q1 q2 q3 hc q5=>?_))
 refine ops_box (B:=w.heap.size) (w0:=w) (cs:=#[.int .i32 (-1),.int .i32 (-1),.map none]) (by simp (disch:=(try simp only [sPu]);omega) [h1']) (by omega) q2 fun w2 r1 r2 r3 hd2 r5=>?_
 repeat (apply ops_1;(focus (simp (disch:=(try simp only [sPu]);omega) ;try rfl)))
 refine oNi ?_
 simp only [Exit.then]
 have hc2:∀ j,w2.cell? ⟨w.heap.size,j,none⟩=#[Value.int .i32 x,.int .i32 y,.map m][j]?:=fun j=>by rw [r1.cell (by show w.heap.size < w1.heap.size;omega)];exact hc j
 rw [q3] at hd2 ⊢
 have hr1:rangeV w2 w.heap.size 2 1=some [.map m]:=by simp [rangeV,hc2]
 have hr2:rangeV w2 (w.heap.size+1) 2 1=some [.map none]:=by simp [rangeV,hd2]
 refine wSq (wRg ?_)
 by_cases hx:x=-1
 ·subst hx
  by_cases hy:y=-1
  ·subst hy
   iterate 17 (first | (apply ops_1;(focus (simp (disch:=(try simp only [sPu]);omega) [hF0,hF1,hF2,h1,h2,hN2,hI1,hc2,hd2,hr1,hr2];try rfl))) | (apply ops_y;(focus rfl);(focus ((try simp only [sPu]);omega));(focus (simp (disch:=(try simp only [sPu]);omega) [hF0,hF1,hF2,h1,h2,hN2,hI1,hc2,hd2,hr1,hr2];done));(focus (simp (disch:=(try simp only [sPu]);omega) [hF0,hF1,hF2,h1,h2,hN2,hI1,hc2,hd2,hr1,hr2];try rfl))) | (apply ops_n;(focus rfl);(focus ((try simp only [sPu]);omega));(focus (first | (left;simp (disch:=(try simp only [sPu]);omega) [hF0,hF1,hF2,h1,h2,hN2,hI1,hc2,hd2,hr1,hr2];done) | (right;simp (disch:=(try simp only [sPu]);omega);done)))))
   obtain ⟨fnF,hA1,hA2,hA3⟩:=oF
   refine opsw_yes rfl rfl (by (try simp only [sPu]);omega) (by simp (disch:=(try simp only [sPu]);omega)) (opw_call hA1 hA2 hA3 (R:=fun e w'=>e=.returned (.bool m.isNone)/\Below w2.heap.size w2 w') ?_ ?_)
   ·refine Eq.mp (congrArg (fun z=>Calls P F0 z w2 _) ?_) (cF w2 m)
    simp (disch:=(try simp only [sPu]);omega)
   rintro e w3 ⟨rfl,hb3⟩
   refine ⟨_,rfl,?_⟩
   repeat (apply ops_1;(focus (simp (disch:=(try simp only [sPu]);omega) ;try rfl)))
   refine oNi (wRt ?_)
   try simp only [Exit.then]
   refine ret_tmp hr (by simp [dPu,hd]) ⟨?_,r2.trans (hb3.mono (by omega))⟩
   cases m <;> simp (disch:=(try simp only [sPu]);omega)
  ·have hy2:(y == -1)=false:=by simpa using hy
   repeat (first | (apply ops_1;(focus (simp (disch:=(try simp only [sPu]);omega) [hF0,hF1,hF2,h1,h2,hN2,hI1,hc2,hd2,hy,hy2];try rfl))) | (apply ops_y;(focus rfl);(focus ((try simp only [sPu]);omega));(focus (simp (disch:=(try simp only [sPu]);omega) [hF0,hF1,hF2,h1,h2,hN2,hI1,hc2,hd2,hy,hy2];done));(focus (simp (disch:=(try simp only [sPu]);omega) [hF0,hF1,hF2,h1,h2,hN2,hI1,hc2,hd2,hy,hy2];try rfl))) | (apply ops_n;(focus rfl);(focus ((try simp only [sPu]);omega));(focus (first | (left;simp (disch:=(try simp only [sPu]);omega) [hF0,hF1,hF2,h1,h2,hN2,hI1,hc2,hd2,hy,hy2];done) | (right;simp (disch:=(try simp only [sPu]);omega);done)))))
   refine oNi (wRt ?_)
   try simp only [Exit.then]
   refine ret_tmp hr (by simp [dPu,hd]) ⟨?_,r2⟩
   simp (disch:=(try simp only [sPu]);omega) [hy]
 ·have hx2:(x == -1)=false:=by simpa using hx
  repeat (first | (apply ops_1;(focus (simp (disch:=(try simp only [sPu]);omega) [hF0,hF1,hF2,h1,h2,hN2,hI1,hc2,hd2,hx,hx2];try rfl))) | (apply ops_y;(focus rfl);(focus ((try simp only [sPu]);omega));(focus (simp (disch:=(try simp only [sPu]);omega) [hF0,hF1,hF2,h1,h2,hN2,hI1,hc2,hd2,hx,hx2];done));(focus (simp (disch:=(try simp only [sPu]);omega) [hF0,hF1,hF2,h1,h2,hN2,hI1,hc2,hd2,hx,hx2];try rfl))) | (apply ops_n;(focus rfl);(focus ((try simp only [sPu]);omega));(focus (first | (left;simp (disch:=(try simp only [sPu]);omega) [hF0,hF1,hF2,h1,h2,hN2,hI1,hc2,hd2,hx,hx2];done) | (right;simp (disch:=(try simp only [sPu]);omega);done)))))
  refine oNi (wRt ?_)
  try simp only [Exit.then]
  refine ret_tmp hr (by simp [dPu,hd]) ⟨?_,r2⟩
  simp (disch:=(try simp only [sPu]);omega) [hx]
theorem cNew_ok {T0 F0:Nat} {zc:Array Value} (hT:∃ i z,P.info? T0=some i/\i.zero=some z/\z.cells=zc) (hz:zc=#[.int .i32 0,.int .i32 0,.map none]) (hA:aggB P T0 3=true) (hN:aggN P T0=some 3) (h0:oneB P T0=false)
  (hD:DefFn P F0 T0 zc #[.int .i32 (-1),.int .i32 (-1),.map none])
  (hf:P.funcs[f]?=some fn) (hb:fn.body.map strip=some (sc_CNew T0 F0)) (hn:fn.ntmps=4) (hr:fn.results=#[.cell 0 T0]) (w:World) :
  Calls P f #[] w fun e w'=>e=.returned (.agg #[.int .i32 (-1),.int .i32 (-1),.map none])/\Below w.heap.size w w':=by
 obtain ⟨i,z,hi,hzz,rfl⟩:=hT
 refine fCa hf hb hn (by simp) fun a0 hs hd ha=>?_
 refine wSq (wRg (oNo rfl (opw_alloc hi hzz (oNi ?_))))
 have hn0:=heap_alloc_new w (.cells z.cells T0)
 have hb0:Below w.heap.size w (w.alloc (.cells z.cells T0)):=(Below.refl _ _).alloc (Nat.le_refl _) _
 have hs0:(w.alloc (.cells z.cells T0)).heap.size=w.heap.size+1:=by simp
 generalize w.alloc (.cells z.cells T0)=w1 at *
 refine wSq (wRg (oNo rfl (opw_alloc hi hzz (oNi ?_))))
 have hn1:=heap_alloc_new w1 (.cells z.cells T0)
 have hb1:Below w1.heap.size w1 (w1.alloc (.cells z.cells T0)):=(Below.refl _ _).alloc (Nat.le_refl _) _
 have hs1:(w1.alloc (.cells z.cells T0)).heap.size=w1.heap.size+1:=by simp
 generalize w1.alloc (.cells z.cells T0)=w2 at *
 refine wSq (wRg (ops_cal hD.1 (R:=fun e w'=>e=.returned (.tuple #[])/\w'=w2.setRow w1.heap.size #[.int .i32 (-1),.int .i32 (-1),.map none]) ?_ ?_))
 ·refine Eq.mp (congrArg (fun z=>Calls P F0 z w2 _) ?_) (hD.2 w2 w1.heap.size hn1)
  simp (disch:=(try simp only [sPu]);omega)
 rintro e w3 ⟨rfl,rfl⟩
 refine ⟨_,rfl,oNi ?_⟩
 have hn2:=setRow_heap w2 w1.heap.size _ #[.int .i32 (-1),.int .i32 (-1),.map none] _ _ hn1
 have hoth:(w2.setRow w1.heap.size #[.int .i32 (-1),.int .i32 (-1),.map none]).heap[w.heap.size]?=some (.cells z.cells T0 (0,0)):=by
  rw [setRow_other _ _ _ _ (by omega),hb1.block _ (by omega)]
  exact hn0
 have hb3:Below w.heap.size w (w2.setRow w1.heap.size #[.int .i32 (-1),.int .i32 (-1),.map none]):=below_setRow (hb0.trans (hb1.mono (by omega))) (by omega) _
 generalize w2.setRow w1.heap.size #[Value.int .i32 (-1),.int .i32 (-1),.map none]=w4 at *
 have hrr:rangeV w4 w1.heap.size 0 3=some [.int .i32 (-1),.int .i32 (-1),.map none]:=by
  have hc:∀ j,w4.cell? ⟨w1.heap.size,j,none⟩=#[Value.int .i32 (-1),.int .i32 (-1),.map none][j]?:=fun j=>cell_of_row _ _ _ _ _ _ hn2
  simp [rangeV,hc]
 refine wSq (wRg ?_)
 iterate 1 (apply ops_1;(focus (simp (disch:=(try simp only [sPu]);omega) [h0,hN,hrr];try rfl)))
 refine oNo rfl (opw_store_agg (b:=w.heap.size) (cs:=[.int .i32 (-1),.int .i32 (-1),.map none]) hA (by simp (disch:=(try simp only [sPu]);omega)) (by simp (disch:=(try simp only [sPu]);omega)) hoth (by rw [hz];rfl) (by simp [Value.oneCell']) (oNi (wRt ?_)))
 have hfin:=setRow_heap w4 w.heap.size _ #[.int .i32 (-1),.int .i32 (-1),.map none] _ _ hoth
 refine ret_cell hr (by simp [hN]) (b:=w.heap.size) (by simp (disch:=(try simp only [sPu]);omega)) hfin (by simp [dPu,hd]) ⟨rfl,below_setRow hb3 (Nat.le_refl _) _⟩
end
end Go.Proofs.YtdnpafdgglpagaaGreatDoor.K
namespace Go.Proofs.YtdnpafdgglpagaaGreatDoor.K
open Go Go.RowKit Go.Proofs.YtdnpafdgglpagaaGreatDoor.T
open Go.ChangeShapes Go.WideShapes Go.Deep
set_option linter.unusedSimpArgs false
set_option linter.unusedVariables false
structure BulkC {H:Type} (B:DataW H->Nat):Prop where
 one:∀ d,1<=B d
 slice:∀ es sp,1+(es.map B).sum<=B (.slice es sp)
 agg:∀ ps,1+(ps.map B).sum<=B (.agg ps)
def sl8 (P:Program) (t:TypeId):Bool:=match P.underlying t with
 | some (.slice e)=>(match P.underlying e with | some (.int .u8)=>true | _=>false) && P.cellsOf e == 1 && P.cellsOf t == 1
 | _=>false
def isK (P:Program) (t:TypeId) (k:IntKind):Bool:=(match P.underlying t with | some (.int k')=>k' == k | _=>false) && P.cellsOf t == 1
def slO (P:Program) (t e:TypeId):Bool:=(match P.underlying t with | some (.slice e')=>e' == e | _=>false) && P.cellsOf t == 1
def isBo (P:Program) (t:TypeId):Bool:=(match P.underlying t with | some .bool=>true | _=>false) && P.cellsOf t == 1
def otB (P:Program) (T Tg:TypeId):Bool :=
 P.cellsOf T == 5 && P.cellsOf Tg == 2 &&
 (match P.underlying T with
  | some (.struct fs)=>(match fs.toList with
   | [f0,f1,f2,f3,f4]=>f0.offset == 0 && f1.offset == 1 && f2.offset == 2 && f3.offset == 3 && f4.offset == 4 && isK P f0.type .i64 && sl8 P f1.type && isBo P f2.type && slO P f3.type T && slO P f4.type Tg
   | _=>false)
  | _=>false) &&
 (match P.underlying Tg with
  | some (.struct fs)=>(match fs.toList with
   | [g0,g1]=>g0.offset == 0 && g1.offset == 1 && isK P g0.type .u32 && sl8 P g1.type
   | _=>false)
  | _=>false)
theorem sl8_of {P:Program} {t:TypeId} (h:sl8 P t=true):∃ e,P.underlying t=some (.slice e)/\P.underlying e=some (.int .u8)/\P.cellsOf e=1/\P.cellsOf t=1:=by
 unfold sl8 at h
 split at h
 ·rename_i e he
  simp only [Bool.and_eq_true,beq_iff_eq] at h
  obtain ⟨⟨h1,h2⟩,h3⟩:=h
  split at h1
  ·rename_i h4;exact ⟨e,he,h4,h2,h3⟩
  ·cases h1
 ·cases h
theorem isK_of {P:Program} {t:TypeId} {k:IntKind} (h:isK P t k=true):P.underlying t=some (.int k)/\P.cellsOf t=1:=by
 simp only [isK,Bool.and_eq_true,beq_iff_eq] at h
 obtain ⟨h1,h2⟩:=h
 split at h1
 ·rename_i k' hk;have:k'=k:=by simpa using h1
  subst this;exact ⟨hk,h2⟩
 ·cases h1
theorem slO_of {P:Program} {t e:TypeId} (h:slO P t e=true):P.underlying t=some (.slice e)/\P.cellsOf t=1:=by
 simp only [slO,Bool.and_eq_true,beq_iff_eq] at h
 obtain ⟨h1,h2⟩:=h
 split at h1
 ·rename_i k' hk;have:k'=e:=by simpa using h1
  subst this;exact ⟨hk,h2⟩
 ·cases h1
theorem isBo_of {P:Program} {t:TypeId} (h:isBo P t=true):P.underlying t=some .bool/\P.cellsOf t=1:=by
 simp only [isBo,Bool.and_eq_true,beq_iff_eq] at h
 obtain ⟨h1,h2⟩:=h
 split at h1
 ·rename_i hk;exact ⟨hk,h2⟩
 ·cases h1
theorem sum_le {α β:Type} (f:α->Nat) (g:β->Nat):∀ (l1:List α) (l2:List β),l1.length=l2.length->(∀ (i:Nat) x y,l1[i]?=some x->l2[i]?=some y->f x<=g y)->(l1.map f).sum<=(l2.map g).sum
 | [],[],_,_=>by simp
 | x :: l1,y :: l2,hl,h=>by
  simp only [List.map_cons,List.sum_cons]
  have h0:=h 0 x y rfl rfl
  have:=sum_le f g l1 l2 (by simpa using hl) fun i a b ha hb=>h (i+1) a b (by simpa using ha) (by simpa using hb)
  omega
 | [],_ :: _,hl,_=>by simp at hl
 | _ :: _,[],hl,_=>by simp at hl
theorem bulkL_sum:∀ ts:List Tree,bulkL ts=(ts.map Tree.bulk).sum
 | []=>rfl
 | t :: r=>by simp only [bulkL,List.map_cons,List.sum_cons,bulkL_sum r]
theorem bulkU_sum:∀ ts:List (Nat × Bytes),bulkU ts=(ts.map fun x=>1+x.2.length).sum
 | []=>rfl
 | t :: r=>by simp only [bulkU,List.map_cons,List.sum_cons,bulkU_sum r]
theorem sum_ones {α:Type} (f:α->Nat) (h:∀ x,1<=f x):∀ l:List α,l.length<=(l.map f).sum
 | []=>by simp
 | x :: r=>by simp only [List.map_cons,List.sum_cons,List.length_cons];have:=h x;have:=sum_ones f h r;omega
section
variable {H:Type} {enc:TypeId × Value->H} {P:Program} {w:World} {B:DataW H->Nat}
theorem addr_of {a:Addr} {n:Nat} {cs:List Value} (h:w.cells? 0 a n=some cs) (hn:0 < n):a=⟨a.block,a.off,none⟩/\a.block < w.heap.size:=by
 obtain ⟨_,hl,hc⟩:=World.cells?_some h
 have h0:=hc 0 hn
 have e0:a.add 0=a:=by simp [Addr.add]
 rw [e0,List.getElem?_eq_getElem (by omega)] at h0
 have hs:a.spot=none/\a.block < w.heap.size:=by
  simp only [World.cell?] at h0
  split at h0
  ·rename_i hb
   split at h0
   ·cases h0
   ·rename_i hs
    exact ⟨by cases hq:a.spot <;> simp_all,(Array.getElem?_eq_some_iff.1 hb).1⟩
  ·cases h0
 refine ⟨?_,hs.2⟩
 cases a
 simp only at hs
 rw [hs.1]
theorem range_of {b o n:Nat} {cs:List Value} (h:w.cells? 0 ⟨b,o,none⟩ n=some cs):rangeV w b o n=some cs:=by
 obtain ⟨_,hl,hc⟩:=World.cells?_some h
 rw [<- hl]
 refine rangeV_of cs o fun j v hj=>?_
 have hlt:j < cs.length:=(List.getElem?_eq_some_iff.1 hj).1
 rw [<- hj,<- hc j (by omega),add_none]
theorem open_els {t e k fuel:Nat} {cs:List Value} {x:DataW H × List MemPlace} (ht:P.underlying t=some (.slice e)) (hk:P.cellsOf e=k) (hk0:0 < k) (h:DataW.trod enc P w 0 (fun _=>true) true fuel t cs=some x) (hB:BulkC B) :
  ∃ (base:Option Addr) (cap n b o:Nat) (es:List (DataW H × List MemPlace)),fuel=n+1/\cs=[.slice base es.length cap]/\es.length<=cap/\1+(es.map fun y=>B y.1).sum<=B x.1/\(es ≠ []->base=some ⟨b,o,none⟩/\b < w.heap.size) /\
   ∀ (i:Nat) (y:DataW H × List MemPlace),es[i]?=some y->∃ cs',rangeV w b (o+i * k) k=some cs'/\cs'.length=k/\DataW.trod enc P w 0 (fun _=>true) true n e cs'=some y:=by
 rcases DataW.trod_slice ht h with ⟨rfl,rfl⟩ | ⟨a,len,cap,elems,rest,n,rfl,rfl,rfl,hb,hl,hm,hlen,hel,hsp,hns⟩
 ·cases fuel with
  | zero=>simp [DataW.trod] at h
  | succ n=>exact ⟨none,0,n,0,0,[],rfl,rfl,Nat.le_refl _,by simpa using hB.one _,fun h=>absurd rfl h,fun i y hy=>by simp at hy⟩
 ·subst hk
  have hev:∀ (i:Nat) (y:DataW H × List MemPlace),elems[i]?=some y->∃ cs',w.cells? 0 (a.add (i * P.cellsOf e)) (P.cellsOf e)=some cs'/\DataW.trod enc P w 0 (fun _=>true) true n e cs'=some y:=by
   intro i y hy
   have hi:i < len:=by rw [<- hlen];exact (List.getElem?_eq_some_iff.1 hy).1
   have:=hel i hi
   rw [hy] at this
   exact Option.bind_eq_some_iff.1 this
  have hsum:1+(elems.map fun y=>B y.1).sum<=B (.slice (elems.map (·.1)) (rest.map (·.1))):=by
   have:=hB.slice (elems.map (·.1)) (rest.map (·.1))
   rwa [List.map_map] at this
  refine ⟨some a,cap,n,a.block,a.off,elems,rfl,by rw [hlen],by omega,hsum,fun hne=>?_,fun i y hy=>?_⟩
  ·obtain ⟨y,hy⟩:∃ y,elems[0]?=some y:=by
    cases elems with
    | nil=>exact absurd rfl hne
    | cons y r=>exact ⟨y,rfl⟩
   obtain ⟨cs',hc,_⟩:=hev 0 y hy
   rw [Nat.zero_mul,show a.add 0=a by simp [Addr.add]] at hc
   obtain ⟨e1,e2⟩:=addr_of hc hk0
   exact ⟨by rw [<- e1],e2⟩
  ·have ha:a=⟨a.block,a.off,none⟩:=by
    obtain ⟨y0,hy0⟩:∃ y,elems[0]?=some y:=by
     cases elems with
     | nil=>simp at hy
     | cons y r=>exact ⟨y,rfl⟩
    obtain ⟨cs',hc,_⟩:=hev 0 y0 hy0
    rw [Nat.zero_mul,show a.add 0=a by simp [Addr.add]] at hc
    exact (addr_of hc hk0).1
   obtain ⟨cs',hc,h2⟩:=hev i y hy
   rw [ha,add_none] at hc
   exact ⟨cs',range_of hc,(World.cells?_some hc).2.1,h2⟩
theorem open_u8s {t fuel:Nat} {cs:List Value} {x:DataW H × List MemPlace} (ht:sl8 P t=true) (h:DataW.trod enc P w 0 (fun _=>true) true fuel t cs=some x) (hB:BulkC B) :
  ∃ (base:Option Addr) (cap:Nat) (bs:Bytes),cs=[.slice base bs.length cap]/\bs.length<=cap/\1+bs.length<=B x.1/\BytesAt w (· < w.heap.size) base bs:=by
 obtain ⟨e,h1,h2,h3,_⟩:=sl8_of ht
 obtain ⟨base,cap,n,b,o,es,rfl,rfl,q1,q2,q3,q4⟩:=open_els h1 h3 (by decide) h hB
 obtain ⟨U,hU⟩:=choose_lt (α:=UInt8) (n:=es.length) (p:=fun i u=>w.cell? ⟨b,o+i,none⟩=some (cell u)) (fun i hi=>by
  obtain ⟨cs',c1,c2,c3⟩:=q4 i es[i] (List.getElem?_eq_getElem hi)
  obtain ⟨m,rfl,_,hwf⟩:=DataW.trod_int h2 c3
  have hbd:=bounds_u8 hwf
  obtain ⟨_,hcell⟩:=rangeV_get _ _ _ c1
  have hc:=hcell 0 _ rfl
  refine ⟨UInt8.ofNat m.toNat,?_⟩
  rw [Nat.mul_one,Nat.add_zero] at hc
  rw [hc]
  have:((UInt8.ofNat m.toNat).toNat:Int)=m:=by simp;omega
  simp only [cell,this])
 refine ⟨base,cap,(List.range es.length).map U,by simp,by simpa using q1,?_,?_⟩
 ·have:=sum_ones (fun y:DataW H × List MemPlace=>B y.1) (fun y=>hB.one _) es
  simp only [List.length_map,List.length_range]
  omega
 ·by_cases hne:es=[]
  ·subst hne;exact .inl rfl
  ·obtain ⟨e1,e2⟩:=q3 hne
   refine .inr ⟨b,o,e1,e2,fun j u hu=>?_⟩
   rw [List.getElem?_map] at hu
   obtain ⟨j',hj',rfl⟩:=Option.map_eq_some_iff.1 hu
   obtain ⟨hj1,hj2⟩:=List.getElem?_eq_some_iff.1 hj'
   rw [List.getElem_range] at hj2
   subst hj2
   exact hU j (by simpa using hj1)
theorem open_utags {t Tg g0t g1t fuel:Nat} {g0 g1:Field} {cs:List Value} {x:DataW H × List MemPlace} (ht:P.underlying t=some (.slice Tg)) (hc:P.cellsOf Tg=2) {fs:Array Field} (hs:P.underlying Tg=some (.struct fs)) (hfs:fs.toList=[g0,g1]) (o0:g0.offset=0) (o1:g1.offset=1) (k0:isK P g0.type .u32=true) (k1:sl8 P g1.type=true)
  (h:DataW.trod enc P w 0 (fun _=>true) true fuel t cs=some x) (hB:BulkC B) :
  ∃ (base:Option Addr) (cap:Nat) (u:List (Nat × Bytes)),cs=[.slice base u.length cap]/\u.length<=cap/\1+bulkU u<=B x.1/\UTagsAt w (· < w.heap.size) base u/\∀ y ∈ u,y.1 < 4294967296:=by
 obtain ⟨base,cap,n,b,o,es,rfl,rfl,q1,q2,q3,q4⟩:=open_els ht hc (by decide) h hB
 obtain ⟨hk0,hk0c⟩:=isK_of k0
 obtain ⟨_,_,_,_,hk1c⟩:=sl8_of k1
 have hf0:fs[0]?=some g0:=by rw [<- Array.getElem?_toList,hfs];rfl
 have hf1:fs[1]?=some g1:=by rw [<- Array.getElem?_toList,hfs];rfl
 obtain ⟨U,hU⟩:=choose_lt (α:=Nat × Bytes) (n:=es.length) (p:=fun i u=>u.1 < 4294967296/\(∃ vb vc,rangeV w b (o+i * 2) 2=some [.int .u32 (u.1:Int),.slice vb u.2.length vc]/\BytesAt w (· < w.heap.size) vb u.2/\u.2.length<=vc)/\∀ y,es[i]?=some y->1+u.2.length<=B y.1) (fun i hi=>by
  obtain ⟨cs',c1,c2,c3⟩:=q4 i es[i] (List.getElem?_eq_getElem hi)
  obtain ⟨xs,m,rfl,hx,hl,hxl,hxs⟩:=DataW.trod_struct hs c3
  have s0:=hxs 0 g0 hf0
  have s1:=hxs 1 g1 hf1
  match cs',c2 with
  | [v0,v1],_ =>
  have hsz:fs.size=2:=by rw [<- Array.length_toList,hfs];rfl
  match xs,(hxl.trans hsz) with
  | [x0,x1],_ =>
  simp only [o0,o1,hk0c,hk1c,List.drop_zero,List.drop_succ_cons,List.take_succ_cons,List.take_zero,List.getElem?_cons_zero,List.getElem?_cons_succ] at s0 s1
  obtain ⟨z,e0,_,hwf⟩:=DataW.trod_int hk0 s0
  obtain ⟨vb,vc,bs,e1,p1,p2,p3⟩:=open_u8s k1 s1 hB
  have hbd:=bounds_u32 hwf
  simp only [List.cons.injEq,and_true] at e0 e1
  subst e0;subst e1
  refine ⟨(z.toNat,bs),by simp only;omega,⟨vb,vc,?_,p3,p1⟩,fun y hy=>?_⟩
  ·rw [c1];simp only;rw [show ((z.toNat:Nat):Int)=z by omega]
  ·rw [List.getElem?_eq_getElem hi] at hy
   cases hy
   rw [hx]
   have:=hB.agg ([x0,x1].map (·.1))
   simp only [List.map_cons,List.map_nil,List.sum_cons,List.sum_nil] at this ⊢
   omega)
 have hget:∀ (i:Nat) (y:Nat × Bytes),((List.range es.length).map U)[i]?=some y->i < es.length/\y=U i:=by
  intro j u hu
  rw [List.getElem?_map] at hu
  obtain ⟨j',hj',rfl⟩:=Option.map_eq_some_iff.1 hu
  obtain ⟨hj1,hj2⟩:=List.getElem?_eq_some_iff.1 hj'
  rw [List.getElem_range] at hj2
  subst hj2
  exact ⟨by simpa using hj1,rfl⟩
 refine ⟨base,cap,(List.range es.length).map U,by simp,by simpa using q1,?_,?_,?_⟩
 ·have:=sum_le (fun x:Nat × Bytes=>1+x.2.length) (fun y:DataW H × List MemPlace=>B y.1) ((List.range es.length).map U) es (by simp) (fun i x y hx hy=>by
   obtain ⟨hi,rfl⟩:=hget i x hx
   exact (hU i hi).2.2 y hy)
  rw [bulkU_sum]
  omega
 ·by_cases hne:es=[]
  ·subst hne;exact .inl rfl
  ·obtain ⟨e1,e2⟩:=q3 hne
   refine .inr ⟨b,o,e1,e2,fun i x hx=>?_⟩
   obtain ⟨hi,rfl⟩:=hget i x hx
   obtain ⟨p1,⟨vb,vc,p2,p3,p4⟩,_⟩:=hU i hi
   exact ⟨p1,vb,vc,p2,p3,p4⟩
 ·intro y hy
  obtain ⟨i,hi⟩:=List.getElem?_of_mem hy
  obtain ⟨hi',rfl⟩:=hget i y hi
  exact (hU i hi').1
theorem open_tree {T Tg:Nat} (hot:otB P T Tg=true) (hB:BulkC B):∀ (fuel:Nat) (cs:List Value) (x:DataW H × List MemPlace),DataW.trod enc P w 0 (fun _=>true) true fuel T cs=some x ->
  ∃ t,TV (fun _=>True) w (· < w.heap.size) t (.agg cs.toArray)/\KAll t/\t.bulk<=B x.1:=by
 intro fuel
 induction fuel using Nat.strongRecOn with
 | ind fuel ih =>
 intro cs x h
 simp only [otB,Bool.and_eq_true,beq_iff_eq] at hot
 obtain ⟨⟨⟨hc5,hc2⟩,hT⟩,hTg⟩:=hot
 split at hT
 ·rename_i fs hfs
  split at hT
  ·rename_i f0 f1 f2 f3 f4 hl5
   simp only [Bool.and_eq_true,beq_iff_eq] at hT
   obtain ⟨⟨⟨⟨⟨⟨⟨⟨⟨o0,o1⟩,o2⟩,o3⟩,o4⟩,k0⟩,k1⟩,k2⟩,k3⟩,k4⟩:=hT
   split at hTg
   ·rename_i gs hgs
    split at hTg
    ·rename_i g0 g1 hl2
     simp only [Bool.and_eq_true,beq_iff_eq] at hTg
     obtain ⟨⟨⟨p0,p1⟩,r0⟩,r1⟩:=hTg
     obtain ⟨hk0,hk0c⟩:=isK_of k0
     obtain ⟨_,_,_,_,hk1c⟩:=sl8_of k1
     obtain ⟨hk2,hk2c⟩:=isBo_of k2
     obtain ⟨hk3,hk3c⟩:=slO_of k3
     obtain ⟨hk4,hk4c⟩:=slO_of k4
     have hf:∀ (i:Nat) (f:Field),[f0,f1,f2,f3,f4][i]?=some f->fs[i]?=some f:=fun i f hf=>by rw [<- Array.getElem?_toList,hl5];exact hf
     obtain ⟨xs,m,rfl,rfl,hl,hxl,hxs⟩:=DataW.trod_struct hfs h
     rw [hc5] at hl
     have hsz:fs.size=5:=by rw [<- Array.length_toList,hl5];rfl
     have s0:=hxs 0 f0 (hf 0 f0 rfl)
     have s1:=hxs 1 f1 (hf 1 f1 rfl)
     have s2:=hxs 2 f2 (hf 2 f2 rfl)
     have s3:=hxs 3 f3 (hf 3 f3 rfl)
     have s4:=hxs 4 f4 (hf 4 f4 rfl)
     match cs,hl with
     | [v0,v1,v2,v3,v4],_ =>
     match xs,(hxl.trans hsz) with
     | [x0,x1,x2,x3,x4],_ =>
     simp only [o0,o1,o2,o3,o4,hk0c,hk1c,hk2c,hk3c,hk4c,List.drop_zero,List.drop_succ_cons,List.take_succ_cons,List.take_zero,List.getElem?_cons_zero,List.getElem?_cons_succ] at s0 s1 s2 s3 s4
     obtain ⟨z,e0,_,_⟩:=DataW.trod_int hk0 s0
     obtain ⟨sb,sc,bs,e1,a1,a2,a3⟩:=open_u8s k1 s1 hB
     obtain ⟨bo,e2,_⟩:=DataW.trod_bool hk2 s2
     obtain ⟨ub,uc,u,e4,u1,u2,u3,u4⟩:=open_utags hk4 hc2 hgs hl2 p0 p1 r0 r1 s4 hB (g0t:=0) (g1t:=0)
     obtain ⟨lb,lc,n,b,o,es,rfl,e3,q1,q2,q3,q4⟩:=open_els hk3 hc5 (by decide) s3 hB
     simp only [List.cons.injEq,and_true] at e0 e1 e2 e3 e4
     subst e0;subst e1;subst e2;subst e3;subst e4
     obtain ⟨TT,hTT⟩:=choose_lt (α:=Tree × List Value) (n:=es.length) (p:=fun i z=>rangeV w b (o+i * 5) 5=some z.2/\TV (fun _=>True) w (· < w.heap.size) z.1 (.agg z.2.toArray)/\KAll z.1/\∀ y,es[i]?=some y->z.1.bulk<=B y.1) (fun i hi=>by
      obtain ⟨cs',c1,c2,c3⟩:=q4 i es[i] (List.getElem?_eq_getElem hi)
      obtain ⟨t,t1,t2,t3⟩:=ih n (by omega) cs' _ c3
      exact ⟨(t,cs'),c1,t1,t2,fun y hy=>by rw [List.getElem?_eq_getElem hi] at hy;cases hy;exact t3⟩)
     have hget:∀ (i:Nat) (y:Tree),((List.range es.length).map fun i=>(TT i).1)[i]?=some y->i < es.length/\y=(TT i).1:=by
      intro j u hu
      rw [List.getElem?_map] at hu
      obtain ⟨j',hj',rfl⟩:=Option.map_eq_some_iff.1 hu
      obtain ⟨hj1,hj2⟩:=List.getElem?_eq_some_iff.1 hj'
      rw [List.getElem_range] at hj2
      subst hj2
      exact ⟨by simpa using hj1,rfl⟩
     refine ⟨.mk z bs bo ((List.range es.length).map fun i=>(TT i).1) u,?_,?_,?_⟩
     ·have htv:=TV.mk (G:=fun _=>True) (w:=w) (F:=fun k=>k < w.heap.size) z bs bo ((List.range es.length).map fun i=>(TT i).1) u sb lb ub sc lc uc b o (fun i=>(TT i).2) a3 a1 (by simpa using q1) u1
       (fun hne=>q3 (by intro e;subst e;exact hne rfl)) (fun i hi=>(hTT i (by simpa using hi)).1)
       (fun i x hx=>by obtain ⟨hi,rfl⟩:=hget i x hx;exact (hTT i hi).2.1) trivial u3
      simpa [treV] using htv
     ·exact .mk _ _ _ _ _ (fun i x hx=>by obtain ⟨hi,rfl⟩:=hget i x hx;exact (hTT i hi).2.2.1) u4
     ·have hsum:=sum_le Tree.bulk (fun y:DataW H × List MemPlace=>B y.1) ((List.range es.length).map fun i=>(TT i).1) es (by simp) (fun i x y hx hy=>by
       obtain ⟨hi,rfl⟩:=hget i x hx
       exact (hTT i hi).2.2.2 y hy)
      have hag:=hB.agg ([x0,x1,x2,x3,x4].map (·.1))
      simp only [List.map_cons,List.map_nil,List.sum_cons,List.sum_nil] at hag
      simp only [Tree.bulk,bulkL_sum]
      simp only [List.map_cons,List.map_nil]
      have:=hB.one x0.1
      have:=hB.one x2.1
      omega
    ·cases hTg
   ·cases hTg
  ·cases hT
 ·cases hT
end
end Go.Proofs.YtdnpafdgglpagaaGreatDoor.K
namespace Go.Proofs.YtdnpafdgglpagaaGreatDoor.K
open Go Go.RowKit Go.Proofs.YtdnpafdgglpagaaGreatDoor.T
set_option linter.unusedVariables false
set_option linter.unusedSimpArgs false
def zeroB (P:Program) (T:Nat) (q:List Value->Bool):Bool:=match P.info? T with
 | some i=>(match i.zero with
  | some z=>q z.cells.toList
  | none=>false)
 | none=>false
theorem zeroB_of {P:Program} {T:Nat} {q:List Value->Bool} (h:zeroB P T q=true):∃ i z,P.info? T=some i/\i.zero=some z/\q z.cells.toList=true:=by
 unfold zeroB at h
 split at h
 ·rename_i i hi
  split at h
  ·rename_i z hz
   exact ⟨i,z,hi,hz,h⟩
  ·cases h
 ·cases h
def isNilMap:List Value->Bool
 | [.map none]=>true
 | _=>false
theorem info_ex2 {P:Program} {T:Nat} (h:zeroB P T isNilMap=true):∃ i z,P.info? T=some i/\i.zero=some z/\z.cells=#[.map none]:=by
 obtain ⟨i,z,h1,h2,h3⟩:=zeroB_of h
 refine ⟨i,z,h1,h2,?_⟩
 unfold isNilMap at h3
 split at h3
 ·rename_i e
  rw [<- Array.toArray_toList (xs:=z.cells),e]
 ·cases h3
def isZ8:List Value->Bool
 | []=>true
 | .int .u8 0 :: r=>isZ8 r
 | _=>false
theorem isZ8_of:∀ l:List Value,isZ8 l=true->l=cellsOf (List.replicate l.length 0)
 | [],_=>rfl
 | v :: r,h=>by
  unfold isZ8 at h
  split at h
  ·rename_i e;cases e
  ·rename_i r' e
   cases e
   have:=isZ8_of r h
   rw [List.length_cons,List.replicate_succ]
   simp only [cellsOf,List.map_cons] at this ⊢
   rw [<- this]
   rfl
  ·cases h
theorem info_ex3 {P:Program} {T:Nat} (h:zeroB P T (fun l=>isZ8 l && l.length == 16)=true):∃ i z,P.info? T=some i/\i.zero=some z/\z.cells=(cellsOf (List.replicate 16 0)).toArray:=by
 obtain ⟨i,z,h1,h2,h3⟩:=zeroB_of h
 simp only [Bool.and_eq_true,beq_iff_eq] at h3
 refine ⟨i,z,h1,h2,?_⟩
 have:=isZ8_of _ h3.1
 rw [h3.2] at this
 rw [<- Array.toArray_toList (xs:=z.cells),this]
def zcOf (P:Program) (T:TypeId):Array Value :=
 match (P.info? T).bind (·.zero) with
 | some z=>z.cells
 | none=>#[]
theorem zc_of {P:Program} {T:TypeId} (h:((P.info? T).bind (·.zero)).isSome=true):∃ i z,P.info? T=some i/\i.zero=some z/\z.cells=zcOf P T:=by
 obtain ⟨z,hz⟩:=Option.isSome_iff_exists.1 h
 obtain ⟨i,hi,hz'⟩:=Option.bind_eq_some_iff.1 hz
 exact ⟨i,z,hi,hz',by simp [zcOf,hz]⟩
set_option maxHeartbeats 200000
def isZTag:List Value->Bool
 | [.int .u32 0,.slice none 0 0]=>true
 | _=>false
theorem tagT_of {P:Program} {X:STy} (h1:aggB P X.Tg 2=true) (h2:P.underlying X.Tgs=some (.slice X.Tg)) (h3:zeroB P X.Tg isZTag=true) (h4:(match P.info? X.Tg with | some i=>i.size == 2 && decide (i.bytes<=1000) | none=>false)=true)
  (h5:P.built X.Tg []=some #[.int .u32 0,.slice none 0 0]):TagT P X:=by
 refine ⟨h1,h2,?_,h5⟩
 obtain ⟨i,z,q1,q2,q3⟩:=zeroB_of h3
 rw [q1] at h4
 simp only [Bool.and_eq_true,beq_iff_eq,decide_eq_true_eq] at h4
 refine ⟨i,z,q1,q2,?_,h4.1,h4.2⟩
 unfold isZTag at q3
 split at q3
 ·rename_i e
  rw [<- Array.toArray_toList (xs:=z.cells),e]
 ·cases q3
end Go.Proofs.YtdnpafdgglpagaaGreatDoor.K
