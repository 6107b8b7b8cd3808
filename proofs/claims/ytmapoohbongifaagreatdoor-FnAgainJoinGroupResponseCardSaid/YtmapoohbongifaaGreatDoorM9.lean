/- Generic texts: R24 Z3 E1 E2 E3 R33 K14 T6. No condition. -/
import Derived.Test.YtmapoohbongifaaGreatDoorM8
import Derived.Maps.RangeRun
import Derived.Great.BuildSlice
import Derived.Shelf.GgSortFunc.Whole
import Derived.Shelf.GgSortFunc.Tiny
import Derived.Laws.CopyRow
import Derived.Laws.IdiomCopy
namespace Go.Proofs.YtmapoohbongifaaGreatDoor.K
open Go Go.RowKit Go.Proofs.YtmapoohbongifaaGreatDoor.T
attribute [local simp] eTm eCo pNo gTp gTn qv qcall vop iop
set_option linter.unusedVariables false
set_option linter.unusedSimpArgs false
set_option maxHeartbeats 2000000
def sc_ReadFromW (F0:Nat):SC:=.seq (.reg [⟨some 4,.assign (.const .nilIface),none⟩]) (.seq (.reg [mv 5 0,mv 6 1,⟨some 7,.call ⟨.value (.func F0),#[(.tmp 5),(.tmp 6),(.const (.bool false))],#[]⟩,none⟩,asg 4 7]) (.ret))
def sc_Again (T0 T1 T2 T3 F0 F1 F2 F3:Nat):SC:=.seq (.reg [⟨some 4,.assign (.const (.slice none 0 0)),none⟩,⟨some 5,.assign (.const (.bool false)),none⟩]) (.seq (.reg [cal 7 F0 [],asg 6 7]) (.seq (.reg [mv 8 6,mv 9 0,⟨some 10,.convert T0 T1 (.tmp 9),none⟩,cal 11 F1 [8,10]]) (.seq (.seq (.reg [mv 12 6,mv 13 1,⟨some 14,.call ⟨.builtin .append,#[(.const (.slice none 0 0)),(.tmp 13)],#[T2,T2]⟩,none⟩,cal 15 F2 [12,14],⟨some 16,.binOp .neq T3 (.tmp 15) (.const .nilIface) T3,none⟩]) (.cond (.tmp 16) (.seq (.reg [⟨some 4,.assign (.const (.slice none 0 0)),none⟩,⟨some 5,.assign (.const (.bool false)),none⟩]) (.ret)) (.skip))) (.seq (.reg [mv 17 6,⟨some 18,.call ⟨.value (.func F3),#[(.tmp 17),(.const (.slice none 0 0))],#[]⟩,none⟩,asg 4 18,⟨some 5,.assign (.const (.bool true)),none⟩]) (.ret)))))
section
variable {P:Program} {f:FuncId} {fn:Func}
theorem readFromW_ok {F0:Nat} (oF:FnOK P F0) (hf:P.funcs[f]?=some fn) (hb:fn.body.map strip=some (sc_ReadFromW F0)) (hn:fn.ntmps=8) (hr:fn.results=#[.tmp 4]) (w:World) (x y:Value) (R:Ending→World→Prop)
    (hc:Calls P F0 #[x,y,.bool false] w fun e w'=>∃ v,e=.returned v∧R e w'):Calls P f #[x,y] w R:=by
  refine fCa hf hb hn (by simp) fun a0 hs hd ha=>?_
  have h0:=ha 0 _ rfl
  have h1:=ha 1 _ rfl
  simp only [List.getElem_toArray,List.getElem_cons_zero,List.getElem_cons_succ] at h0 h1
  refine SC.wp_seq (SC.wp_reg ?_)
  repeat (apply ops_1;(focus (simp (disch:=(try simp only [sPu]);omega) ;try rfl)))
  refine oNi (SC.wp_seq (SC.wp_reg ?_))
  iterate 2 (apply ops_1;(focus (simp (disch:=(try simp only [sPu]);omega) [h0,h1];try rfl)))
  refine ops_call oF hc (by simp (disch:=(try simp only [sPu]);omega) [h0,h1]) ?_
  rintro e w1 ⟨v,rfl,hR⟩
  refine ⟨_,rfl,?_⟩
  repeat (apply ops_1;(focus (simp (disch:=(try simp only [sPu]);omega) ;try rfl)))
  refine oNi (SC.wp_ret (ret_tmp hr (by simp [dPu,hd]) ?_))
  simp (disch:=(try simp only [sPu]);omega)
  exact hR
def isErr:Value→Bool
  | .iface _ _=>true
  | _=>false
def ifaceT (P:Program) (T:Nat):Bool:=match P.underlying T with
  | some (.interface _)=>true
  | _=>false
theorem opw_isErr {a:Act} {w:World} {K:Act→World→Prop} {d:Option Tmp} {g:Option (Nat × Bool)} {T T':Nat} {x:Operand} {v:Value} (hT:ifaceT P T=true) (hx:a.eval x=v) (hv:v=.nilIface∨∃ t y,v=.iface t y) (h:K (a.put d (.bool (isErr v))) w) :
    opw P ⟨d,.binOp .neq T x (.const .nilIface) T',g⟩ a w K:=by
  unfold ifaceT at hT
  split at hT <;> try (simp at hT;done)
  rename_i ms hu
  refine oVa (v:=.bool (isErr v)) (by simp) (fun p hp=>?_) h
  have he:(Op.equal T v .nilIface).run P w=.ok (!isErr v) w:=by
    have hd:∀ d,(Op.equalIn (d+1) T v .nilIface).run P w=.ok (!isErr v) w:=fun d=>by
      rcases hv with rfl | ⟨t,y,rfl⟩ <;> simp [Op.equalIn,run_underlying hu,isErr]
    exact hd 9999
  rcases hv with rfl | ⟨t,y,rfl⟩ <;> simp [execOp,hp,hx,eCo,eqGuard,binOp,he,isErr]
def AgC (P:Program) (tU8:Nat) (flex:Option Int) (fs:Fs) (gb m:Nat) (Gl:World→Prop) (F:FuncId):Prop:=FnOK P F∧∀ (w:World) (S:Option Nat) (base:Option Addr) (src:Bytes) (cap v:Nat),v≤m→gb < w.heap.size→(∀ w',Below w.heap.size w w'→Gl w')→SrcAt w S base src→(∀ sb,S=some sb→sb < w.heap.size)→src.length≤lim →
  (∀ xs u r,pMsg v (flexAt flex v) fs src=some ((xs,u),r)→FitFs v fs xs∧FitTags u∧(wMsg v (flexAt flex v) fs xs u).length≤lim) →
  Calls P F #[.int .i64 (v:Int),.slice base src.length cap] w fun e w'=>Below w.heap.size w w' ∧
    match pMsg v (flexAt flex v) fs src with
    | none=>e=.returned (.tuple #[.slice none 0 0,.bool false])
    | some ((xs,u),r)=>∃ dv,e=.returned (.tuple #[dv,.bool true])∧Own tU8 w' w.heap.size dv (wMsg v (flexAt flex v) fs xs u)
theorem res2 {a:Act} {w:World} {r1 r2:Nat} {v1 v2:Value} (hr:fn.results=#[.tmp r1,.tmp r2]) (h1:getT a r1=v1) (h2:getT a r2=v2):(results fn a.tmps).run P w=.ok (.tuple #[v1,v2]) w:=by
  have e1:a.tmps.getD r1 undef=v1:=h1
  have e2:a.tmps.getD r2 undef=v2:=h2
  simp only [Array.getD_eq_getD_getElem?] at e1 e2
  simp [results,hr,e1,e2]
theorem own_base {tU8:Nat} {w:World} {B B':Nat} {dv:Value} {xs:Bytes} (h:Own tU8 w B dv xs) (hB:B'≤B):Own tU8 w B' dv xs:=by
  obtain ⟨h1,h2 | ⟨g,cap,cur,e1,e2,e3⟩⟩:=h
  · exact ⟨h1,.inl h2⟩
  · exact ⟨h1,.inr ⟨g,cap,cur,e1,Nat.le_trans hB e2,e3⟩⟩
theorem pMsg_body {ver:Int} {flex:Bool} {fs:Fs} {b:Bytes}:pMsg ver flex fs b=(pBody ver flex fs b).map fun z=>((z.1.l,z.1.u),z.2):=by
  simp only [pMsg,pBody,rThen]
  cases h1:pFs ver flex fs b with
  | none=>rfl
  | some z =>
    obtain ⟨xs,r⟩:=z
    simp only [Option.bind_some]
    cases h2:pTags flex r with
    | none=>rfl
    | some z2=>rfl
theorem again_ok {I:RIds} {M:RTop} {tU8 gb m T0 T1 T2 T3 F0 F1 F2 F3 FR:Nat} {G:List (Nat × Bytes)→Prop} {Gl:World→Prop} {err:Value} {cs:Array Value} {T:TypeId}
    (h0k:intK P T0=some .i64) (h1k:intK P T1=some .i16) (hT2:u8sB P T2 tU8=true) (hT3:ifaceT P T3=true) (hm:m < 32768) (herr:∃ t y,err=.iface t y)
    (oNP:FnOK P F0) (cNP:∀ w:World,Calls P F0 #[] w fun e w'=>∃ b,e=.returned (.pointer (some ⟨b,0,none⟩))∧w.heap.size≤b∧w'.heap[b]?=some (.cells cs T (0,0))∧Below w.heap.size w w')
    (oSV:FnOK P F1) (cSV:∀ (w:World) (b:Nat) (cs:Array Value) (E:TypeId),w.heap[b]?=some (.cells cs E (0,0))→0 < cs.size→∀ n:Int,Calls P F1 #[.pointer (some ⟨b,0,none⟩),.int .i16 n] w fun e w'=>e=.returned (.tuple #[])∧w'=w.setRow b (cs.setIfInBounds 0 (.int .i16 n)))
    (oRF:FnOK P F2) (cRF:∀ (w:World) (x y:Value) (R:Ending→World→Prop),(Calls P FR #[x,y,.bool false] w fun e w'=>∃ v,e=.returned v∧R e w')→Calls P F2 #[x,y] w R)
    (cR:∀ (B:Nat) (w0:World),gb < B→(∀ w',Below B w0 w'→Gl w')→ReadC P I M B G err FR w0)
    (oAT:FnOK P F3) (cAT:∀ (w:World) (b:Nat) (ver:Int) (ts:List Tree) (u:List (Nat × Bytes)),b < w.heap.size→w.cell? ⟨b,0,none⟩=some (.int .i16 ver)→0≤ver→HFs G w (· < w.heap.size) ver (flexAt M.flex ver) M.fs b 0 ts→TagsAt G w (· < w.heap.size) (flexAt M.flex ver) b 0 M.tags u →
      (wFs ver (flexAt M.flex ver) M.fs ts ++ wTags (flexAt M.flex ver) u).length≤lim→Calls P F3 #[.pointer (some ⟨b,0,none⟩),.slice none 0 0] w fun e w'=>∃ dv,e=.returned dv∧Own tU8 w' w.heap.size dv (wFs ver (flexAt M.flex ver) M.fs ts ++ wTags (flexAt M.flex ver) u)∧Below w.heap.size w w')
    (hsz:M.size≤cs.size) (hs1:1≤M.size) (hlay:layFs 1 (topEnd M.size M.tags) M.fs=true) (hfr:frFsB (fun j=>cs[j]?) M.fs 0=true)
    (hf : P.funcs[f]? = some fn) (hb : fn.body.map strip = some (sc_Again T0 T1 T2 T3 F0 F1 F2 F3)) (hnm : (fn.name == "runtime.NumGoroutine") = false) (hn : fn.ntmps = 19) (hr : fn.results = #[.tmp 4, .tmp 5]) : AgC P tU8 M.flex M.fs gb m Gl f := by
  refine ⟨fnOK_of hf hb hnm,fun w S base src cap v hv hgb hgl hsr hS hlen hfit=>?_⟩
  refine fCa hf hb hn (by simp) fun a0 hs hd ha=>?_
  have h0:=ha 0 _ rfl
  have h1:=ha 1 _ rfl
  simp only [List.getElem_toArray,List.getElem_cons_zero,List.getElem_cons_succ] at h0 h1
  refine SC.wp_seq (SC.wp_reg ?_)
  repeat (apply ops_1;(focus (simp (disch:=(try simp only [sPu]);omega) ;try rfl)))
  refine oNi (SC.wp_seq (SC.wp_reg ?_))
  refine ops_call oNP (cNP w) (by simp (disch:=(try simp only [sPu]);omega)) ?_
  rintro e w1 ⟨b,rfl,hbw,hrow,hb1⟩
  refine ⟨_,rfl,?_⟩
  have hbl1:b < w1.heap.size:=(Array.getElem?_eq_some_iff.1 hrow).1
  repeat (apply ops_1;(focus (simp (disch:=(try simp only [sPu]);omega) ;try rfl)))
  refine oNi (SC.wp_seq (SC.wp_reg ?_))
  have hwv:IntKind.i16.wrap (v:Int)=(v:Int):=by
    simp only [IntKind.wrap,IntKind.bits,IntKind.signed]
    simp
    split <;> omega
  iterate 3 (apply ops_1;(focus (simp (disch:=(try simp only [sPu]);omega) [h0,h0k,h1k,hwv];try rfl)))
  refine ops_call oSV (cSV w1 b cs T hrow (by omega) (v:Int)) (by simp (disch:=(try simp only [sPu]);omega)) ?_
  rintro e w2 ⟨rfl,hw2⟩
  refine ⟨_,rfl,oNi ?_⟩
  simp only [Exit.then]
  have hrow2:w2.heap[b]?=some (.cells (cs.setIfInBounds 0 (.int .i16 v)) T (0,0)):=by rw [hw2];exact setRow_heap _ _ _ _ _ _ hrow
  have hb2:Below w.heap.size w w2:=by rw [hw2];exact hb1.trans ⟨rfl,rfl,rfl,by simp,fun k hk=>setRow_other _ _ _ _ (by omega)⟩
  have hsz2:w2.heap.size=w1.heap.size:=by rw [hw2];simp
  refine SC.wp_seq (SC.wp_seq (SC.wp_reg ?_))
  iterate 2 (apply ops_1;(focus (simp (disch:=(try simp only [sPu]);omega) [h1];try rfl)))
  have hS2:SrcAt w2 S base src:=hsr.frame fun sb h=>hb2.block sb (hS sb h)
  have hu8:=(u8s_of hT2).1
  have hsrc:Src P 1 T2 (.slice base src.length cap) src.length (cellsOf src) w2:=by
    cases S with
    | none =>
      obtain ⟨rfl,rfl⟩:=hS2
      exact Src.ofNil w2 hu8 _
    | some sb =>
      obtain ⟨o,rfl,hc⟩:=hS2
      refine Src.ofSlice w2 hu8 ⟨sb,o,none⟩ src.length cap (cellsOf src) (by simp [cLen]) (fun j u hj=>?_) (fun u hu=>?_)
      · rw [add_none]
        simp only [cellsOf,List.getElem?_map,Option.map_eq_some_iff] at hj
        obtain ⟨u',hu',rfl⟩:=hj
        exact hc j u' hu'
      · simp only [cellsOf,List.mem_map] at hu
        obtain ⟨u',_,rfl⟩:=hu
        rfl
  refine oNo rfl (opw_appendU8 (B:=w2.heap.size) (xs:=[]) (bs:=src) (dv:=.slice none 0 0) (xv:=.slice base src.length cap) hT2 (eCo _ _) (by simp (disch:=(try simp only [sPu]);omega)) rfl (World.ownsRow_nil _ _ _ _) (Nat.le_refl _) hsrc (by simpa using hlen) fun dv w3 ho hb3 hbs3 _=>?_)
  rw [List.nil_append] at ho
  have hrow3:w3.heap[b]?=some (.cells (cs.setIfInBounds 0 (.int .i16 v)) T (0,0)):=by rw [hb3.block b (by omega)];exact hrow2
  have hb3':Below w.heap.size w w3:=hb2.trans ⟨hb3.os,hb3.tape,hb3.output,hb3.size,fun k hk=>hb3.block k (by have:=hb2.size;omega)⟩
  obtain ⟨S3,base3,cap3,rfl,hcap3,hsr3,hS3⟩:∃ S3 base3 cap3,dv=.slice base3 src.length cap3∧src.length≤cap3∧SrcAt w3 S3 base3 src∧∀ sb,S3=some sb→sb ≠ b∧sb < w3.heap.size:=by
    obtain ⟨ho1,⟨e1,e2⟩ | ⟨g,c3,cur,e1,e2,e3,e4,e5,e6,e7⟩⟩:=ho
    · have hnil:src=[]:=List.length_eq_zero_iff.1 e2
      subst hnil
      exact ⟨none,none,0,e1,Nat.le_refl _,⟨rfl,rfl⟩,fun sb h=>by cases h⟩
    · refine ⟨some g,some ⟨g,0,none⟩,c3,e1,e4,⟨0,rfl,fun j u hu=>?_⟩,fun sb h=>by cases h;exact ⟨by omega,(Array.getElem?_eq_some_iff.1 e3).1⟩⟩
      rw [cell_of_row _ _ _ _ _ _ e3,Nat.zero_add]
      have hj:(cellsOf src)[j]?=some (cell u):=by simp [cellsOf,hu]
      rw [← e7,List.getElem?_take] at hj
      split at hj
      · rwa [Array.getElem?_toList] at hj
      · cases hj
  have hfr1:FrFs w1 b M.fs 0:=by
    have:=frFsB_ok (w:=w1) (b:=b) (q:=0) (get:=fun j=>cs[j]?) (fun j v hj=>by rw [Nat.zero_add,cell_of_row _ _ _ _ _ _ hrow];exact hj) M.fs 0 hfr
    simpa using this
  have hfr3:FrFs w3 b M.fs 0:=by
    refine frFs_frame (w:=w1) M.fs 1 (topEnd M.size M.tags) 0 hlay (fun j h1 h2=>?_) hfr1
    rw [cell_of_row _ _ _ _ _ _ hrow,cell_of_row _ _ _ _ _ _ hrow3]
    exact Array.getElem?_setIfInBounds_ne (by omega)
  have hcr:=cR w.heap.size w3 hgb (fun w' h=>hgl w' (hb3'.trans h)) S3 b _ T base3 src cap3 (v:Int) (by omega) hbw (by have:=hb3'.size;omega) hrow3 (by rw [Array.size_setIfInBounds];exact hsz) (by simp [show 0 < cs.size by omega]) hfr3 hcap3 hsr3 hS3
  obtain ⟨R,hR⟩:∃ R:Ending→World→Prop,R=fun e w'=>∃ v',e=.returned v'∧((v'=.nilIface∨∃ t y,v'=.iface t y)∧Below w.heap.size w3 w'∧w.heap.size≤w'.heap.size ∧
      match pMsg v (flexAt M.flex v) M.fs src with
      | none=>v'=err
      | some ((xs,u),r)=>v'=.nilIface∧b < w'.heap.size∧w'.cell? ⟨b,0,none⟩=some (.int .i16 v)∧HFs G w' (· < w'.heap.size) v (flexAt M.flex v) M.fs b 0 xs∧TagsAt G w' (· < w'.heap.size) (flexAt M.flex v) b 0 M.tags u):=⟨_,rfl⟩
  refine ops_call oRF (cRF w3 (.pointer (some ⟨b,0,none⟩)) (.slice base3 src.length cap3) R (hcr.mono fun e w' h=>?_)) (by simp (disch:=(try simp only [sPu]);omega)) ?_
  · obtain ⟨z1,z2,z3⟩:=h
    rw [hR]
    simp only [pMsg_body]
    cases hp:pBody v (flexAt M.flex v) M.fs src with
    | none =>
      rw [hp] at z3
      simp only at z3
      subst z3
      exact ⟨_,rfl,_,rfl,.inr herr,z1,z2,rfl⟩
    | some zz =>
      obtain ⟨x,r⟩:=zz
      rw [hp] at z3
      obtain ⟨rfl,y1,y2,y3⟩:=z3
      have hft:=hfit x.l x.u r (by rw [pMsg_body,hp];rfl)
      obtain ⟨F,hF,q1,q2⟩:=y3 hft.1 hft.2.1
      refine ⟨_,rfl,_,rfl,.inl rfl,z1,z2,rfl,y1,y2,?_,?_⟩
      · exact hFs_frame (fun k hk=>⟨hF k hk,rfl⟩) _ _ M.fs 1 (topEnd M.size M.tags) b 0 x.l hlay (fun _ _ _=>rfl) q1
      · cases ht:M.tags with
        | none=>rw [ht] at q2;exact q2
        | some z =>
          rw [ht] at q2
          exact fun hfl=>hTags_frame (fun k hk=>⟨hF k hk,rfl⟩) rfl (q2 hfl)
  rw [hR]
  rintro e w4 ⟨v',rfl,hv',hb4,hs4,hpost⟩
  refine ⟨_,rfl,?_⟩
  refine oNo rfl (opw_isErr (v:=v') hT3 (by simp (disch:=(try simp only [sPu]);omega)) hv' (oNi ?_))
  simp only [Exit.then]
  refine SC.wp_cond (t:=isErr v') (by simp (disch:=(try simp only [sPu]);omega)) ?_
  have hb4':Below w.heap.size w w4:=hb3'.trans hb4
  cases hp:pMsg v (flexAt M.flex v) M.fs src with
  | none =>
    rw [hp] at hpost
    simp only at hpost
    subst hpost
    obtain ⟨t,y,rfl⟩:=herr
    simp only [isErr,if_true]
    refine SC.wp_seq (SC.wp_reg ?_)
    repeat (apply ops_1;(focus (simp (disch:=(try simp only [sPu]);omega) ;try rfl)))
    refine oNi (SC.wp_ret ?_)
    try simp only [Exit.then]
    exact bodyPost_ret_by (v:=.tuple #[.slice none 0 0,.bool false]) (res2 hr (by simp (disch:=(try simp only [sPu]);omega)) (by simp (disch:=(try simp only [sPu]);omega))) (by simp [dPu,hd]) ⟨hb4',rfl⟩
  | some zz =>
    obtain ⟨⟨xs,u⟩,r⟩:=zz
    rw [hp] at hpost
    obtain ⟨rfl,y1,y2,y3,y4⟩:=hpost
    simp only [isErr,Bool.false_eq_true,if_false]
    refine SC.wp_skip ?_
    simp only [Exit.then]
    refine SC.wp_seq (SC.wp_reg ?_)
    iterate 1 (apply ops_1;(focus (simp (disch:=(try simp only [sPu]);omega) ;try rfl)))
    refine ops_call oAT (cAT w4 b v xs u y1 y2 (by omega) y3 y4 (hfit xs u r hp).2.2) (by simp (disch:=(try simp only [sPu]);omega)) ?_
    rintro e w5 ⟨dv5,rfl,ho5,hb5⟩
    refine ⟨_,rfl,?_⟩
    repeat (apply ops_1;(focus (simp (disch:=(try simp only [sPu]);omega) ;try rfl)))
    refine oNi (SC.wp_ret ?_)
    try simp only [Exit.then]
    exact bodyPost_ret_by (v:=.tuple #[dv5,.bool true]) (res2 hr (by simp (disch:=(try simp only [sPu]);omega)) (by simp (disch:=(try simp only [sPu]);omega))) (by simp [dPu,hd]) ⟨hb4'.trans ⟨hb5.os,hb5.tape,hb5.output,hb5.size,fun k hk=>hb5.block k (by omega)⟩,dv5,rfl,own_base ho5 (by omega)⟩
end
end Go.Proofs.YtmapoohbongifaaGreatDoor.K
namespace Go.Proofs.YtmapoohbongifaaGreatDoor.K
open Go Go.RowKit Go.Proofs.YtmapoohbongifaaGreatDoor.T
set_option linter.unusedSimpArgs false
set_option linter.unusedVariables false
section
variable {P:Program} {f:FuncId} {fn:Func}
theorem ops_callg {all:List SOp} {a:Act} {w:World} {t g j dj:Nat} {want:Bool} {args:Array Operand} {argsV:Array Value} {r:List SOp} {K:Act→World→Prop} {R:Ending→World→Prop} (hj:(all[j]?).bind (·.dst)=some dj) (hlt:dj < a.tmps.size) (hb:getT a dj=.bool want) (hf:FnOK P g) (hc:Calls P g argsV w R) (hargs:args.map a.eval=argsV)
    (hR:∀ e w',R e w'→∃ v,e=.returned v∧opsw P all r K (a.put (some t) v) w'):opsw P all (⟨some t,.call ⟨.value (.func g),args,#[]⟩,some (j,want)⟩ :: r) K a w:=by
  obtain ⟨fn,h1,h2,h3⟩:=hf
  refine ⟨dj,want,hj,hlt,.inl hb,?_⟩
  rw [if_pos rfl]
  exact opw_call (R:=R) h1 h2 h3 (by rw [hargs];exact hc) hR
theorem own_src {tU8:Nat} {w:World} {B:Nat} {dv:Value} {xs:Bytes} (h:Own tU8 w B dv xs):∃ S base cap,dv=.slice base xs.length cap∧SrcAt w S base xs∧∀ sb,S=some sb→B≤sb∧sb < w.heap.size:=by
  obtain ⟨ho1,⟨e1,e2⟩ | ⟨g,c3,cur,e1,e2,e3,e4,e5,e6,e7⟩⟩:=h
  · have hnil:xs=[]:=List.length_eq_zero_iff.1 e2
    subst hnil
    exact ⟨none,none,0,e1,⟨rfl,rfl⟩,fun sb h=>by cases h⟩
  · refine ⟨some g,some ⟨g,0,none⟩,c3,e1,⟨0,rfl,fun j u hu=>?_⟩,fun sb h=>by cases h;exact ⟨e2,(Array.getElem?_eq_some_iff.1 e3).1⟩⟩
    rw [cell_of_row _ _ _ _ _ _ e3,Nat.zero_add]
    have hj:(cellsOf xs)[j]?=some (cell u):=by simp [cellsOf,hu]
    rw [← e7,List.getElem?_take] at hj
    split at hj
    · rwa [Array.getElem?_toList] at hj
    · cases hj
end
end Go.Proofs.YtmapoohbongifaaGreatDoor.K
namespace Go.Proofs.YtmapoohbongifaaGreatDoor.K
open Go Go.RowKit Go.Proofs.YtmapoohbongifaaGreatDoor.T
attribute [local simp] eTm eCo pNo gTp gTn qv qcall vop iop
set_option linter.unusedVariables false
set_option linter.unusedSimpArgs false
set_option maxHeartbeats 4000000
def sc_Each1 (T0 T1:Nat):SC:=.seq (.reg [⟨some 5,.assign (.const (.bool false)),none⟩]) (.seq (.dreg [ld 6 T0 2,mv 7 0,⟨some 8,.indexAddr T0 (.tmp 6) (.tmp 7),none⟩,ld 9 T1 8,ld 10 T0 2,mv 11 1,⟨some 12,.indexAddr T0 (.tmp 10) (.tmp 11),none⟩,ld 13 T1 12,⟨some 14,.binOp .lss T1 (.tmp 9) (.tmp 13) T1,none⟩,asg 5 14] [[],[],[0,1],[2],[],[],[4,5],[6],[3,7],[8,0,1,2,3,4,5,6,7,8]]) (.ret))
def sc_AppendEach1 (T0 T1 T2 F0:Nat):SC:=.seq (.reg [ld 5 T0 2,mv 6 0,cal 7 F0 [5,6],⟨none,.store T0 (.tmp 2) (.tmp 7),none⟩]) (.seq (.reg [ld 8 T0 2,mv 9 1,lenOp 10 T0 9,⟨some 11,.convert T1 T2 (.tmp 10),none⟩,cal 12 F0 [8,11],⟨none,.store T0 (.tmp 2) (.tmp 12),none⟩]) (.reg [ld 13 T0 2,mv 14 1,⟨some 15,.call ⟨.builtin .append,#[(.tmp 13),(.tmp 14)],#[T0,T0]⟩,none⟩,⟨none,.store T0 (.tmp 2) (.tmp 15),none⟩]))
section
variable {P:Program} {f:FuncId} {fn:Func}
theorem less_ok {T0 T1:Nat} (hm:P.follows .mixedOrders=true) (h0:oneB P T0=true) (hs0:sliceN P T0=some 1) (h1:oneB P T1=true) (hf:P.funcs[f]?=some fn) (hb:fn.body.map strip=some (sc_Each1 T0 T1)) (hn:fn.ntmps=15) (hr:fn.results=#[.tmp 5])
    (w:World) (q blk n cap i j x y:Nat) (hq:w.cell? ⟨q,0,none⟩=some (.slice (some ⟨blk,0,none⟩) n cap)) (hqs:q < w.heap.size) (hbs:blk < w.heap.size) (hi:i < n) (hj:j < n) (hx:w.cell? ⟨blk,i,none⟩=some (.int .u32 (x:Int))) (hy:w.cell? ⟨blk,j,none⟩=some (.int .u32 (y:Int))) :
    Calls P f #[.int .i64 (i:Int),.int .i64 (j:Int),.pointer (some ⟨q,0,none⟩)] w fun e w'=>e=.returned (.bool (decide (x < y)))∧w'=w.drew:=by
  refine fCa hf hb hn (by simp) fun a0 hs hd ha=>?_
  have k0:=ha 0 _ rfl
  have k1:=ha 1 _ rfl
  have k2:=ha 2 _ rfl
  simp only [List.getElem_toArray,List.getElem_cons_zero,List.getElem_cons_succ] at k0 k1 k2
  have hq':w.drew.cell? ⟨q,0,none⟩=some (.slice (some ⟨blk,0,none⟩) n cap):=hq
  have hx':w.drew.cell? ⟨blk,i,none⟩=some (.int .u32 (x:Int)):=hx
  have hy':w.drew.cell? ⟨blk,j,none⟩=some (.int .u32 (y:Int)):=hy
  have ei:(0:Int)≤(i:Int)∧(i:Int) < (n:Int):=by omega
  have ej:(0:Int)≤(j:Int)∧(j:Int) < (n:Int):=by omega
  refine SC.wp_seq (SC.wp_reg ?_)
  repeat (apply ops_1;(focus (simp (disch:=(try simp only [sPu]);omega) ;try rfl)))
  refine oNi (SC.wp_seq (SC.wp_dreg hm (Below w.heap.size w.drew) [(0,true),(1,true),(2,true),(3,true),(4,true),(5,true),(6,true),(7,true),(8,true),(9,true)] (by rfl) (by rfl) (by decide) (Below.refl _ _) ?_))
  repeat (apply dr_1;(focus rfl);(focus (simp (disch:=(try simp only [sPu]);omega) [h0,hs0,h1,k0,k1,k2,hq',hqs,hbs,ei,ej,hx',hy',hi,hj];try rfl)))
  refine dreg_nil ?_
  simp only [Exit.then]
  refine SC.wp_ret (ret_tmp hr (by simp [dPu,hd]) ⟨?_,rfl⟩)
  simp (disch:=(try simp only [sPu]);omega)
structure Turns (c:Nat) (dv dv':Value) (w w':World):Prop where
  os:w'.os=w.os
  tape:w'.tape=w.tape
  output:w'.output=w.output
  size:w.heap.size≤w'.heap.size
  block:∀ j,j < w.heap.size→j ≠ c→some j ≠ dv.ownBlock→w'.heap[j]?=w.heap[j]?
  own:dv'.ownBlock=dv.ownBlock∨∃ b,dv'.ownBlock=some b∧w.heap.size≤b
theorem Turns.refl (c:Nat) (dv:Value) (w:World):Turns c dv dv w w:=⟨rfl,rfl,rfl,Nat.le_refl _,fun _ _ _ _=>rfl,.inl rfl⟩
theorem Turns.trans {c:Nat} {d1 d2 d3:Value} {w1 w2 w3:World} (h:Turns c d1 d2 w1 w2) (h':Turns c d2 d3 w2 w3):Turns c d1 d3 w1 w3:=by
  have hs:=h.size
  refine ⟨h'.os.trans h.os,h'.tape.trans h.tape,h'.output.trans h.output,Nat.le_trans h.size h'.size,fun k hk hc hne=>?_,?_⟩
  · rw [h'.block k (by omega) hc ?_]
    · exact h.block k hk hc hne
    · rcases h.own with e | ⟨b,e,hb⟩
      · rw [e];exact hne
      · rw [e];intro e2;cases e2;omega
  · rcases h'.own with e | ⟨b,e,hb⟩
    · rcases h.own with e2 | ⟨b,e2,hb⟩
      · exact .inl (e.trans e2)
      · exact .inr ⟨b,e.trans e2,hb⟩
    · exact .inr ⟨b,e,by omega⟩
theorem Turns.of {B c:Nat} {d d':Value} {w w1:World} {cs:Array Value} (h:BelG B d d' w w1):Turns c d d' w (w1.setRow c cs):=by
  obtain ⟨h1,h2,h3⟩:=h
  exact ⟨h1.os,h1.tape,h1.output,by simpa using h1.size,fun j hj hc hne=>by rw [setRow_other _ _ _ _ hc];exact h2 j hj hne,h3⟩
theorem own_row {tU8:Nat} {w:World} {B c:Nat} {v:Value} {xs:Bytes} {cs:Array Value} (h:Own tU8 w B v xs) (hne:v.ownBlock ≠ some c):Own tU8 (w.setRow c cs) B v xs:=by
  refine ⟨h.1,h.2.imp id ?_⟩
  rintro ⟨g,cap,cur,h1,h2,h3,h4⟩
  refine ⟨g,cap,cur,h1,h2,?_,h4⟩
  rw [setRow_other]
  · exact h3
  · intro e;subst e;exact hne (by rw [h1];rfl)
theorem own_ltB {tU8:Nat} {w:World} {B b:Nat} {v:Value} {xs:Bytes} (h:Own tU8 w B v xs) (hb:v.ownBlock=some b):B≤b∧b < w.heap.size:=h.lt b hb
theorem own_one {tU8:Nat} {w:World} {B:Nat} {dv:Value} {xs:Bytes} (h:Own tU8 w B dv xs):dv.oneCell'=true:=by rcases h.2 with ⟨rfl,_⟩ | ⟨g,cap,cur,rfl,_⟩ <;> rfl
theorem bytesAt_turns {w w':World} {B c:Nat} {dv dv':Value} {base:Option Addr} {bs:Bytes} (h:BytesAt w (· < B) base bs) (hB:B≤w.heap.size) (hc:B≤c) (hd:∀ b,dv.ownBlock=some b→B≤b) (ht:Turns c dv dv' w w'):BytesAt w' (· < B) base bs :=
  bytesAt_mono h (fun _ h=>h) fun k hk=>ht.block k (by omega) (by omega) fun e=>by have:=hd k e.symm;omega
theorem cl_ok {T0 T1 T2 F0 tU8:Nat} (hT:u8sB P T0 tU8=true) (h0:oneB P T0=true) (hs0:sliceN P T0=some 1) (h1k:intK P T1=some .i64) (h2k:intK P T2=some .u32) (cU:∀ n:Nat,n < 4294967296→AP2 P tU8 F0 #[.int .u32 (n:Int)] (uvarint n))
    (hf:P.funcs[f]?=some fn) (hb:fn.body.map strip=some (sc_AppendEach1 T0 T1 T2 F0)) (hn:fn.ntmps=16) (hr:fn.results=#[])
    (w:World) (B c k cap:Nat) (dv:Value) (xs bs:Bytes) (base:Option Addr) (ho:Own tU8 w B dv xs) (hne:dv.ownBlock ≠ some c) (hc:w.heap[c]?=some (.cells #[dv] T0 (0,0))) (hBc:B≤c) (hk:k < 4294967296) (hbs:BytesAt w (· < B) base bs) (hm:bs.length≤most) (hl:xs.length+(wTag (k,bs)).length≤lim) :
    Calls P f #[.int .u32 (k:Int),.slice base bs.length cap,.pointer (some ⟨c,0,none⟩)] w fun e w'=>e=.returned (.tuple #[])∧∃ dv',w'.heap[c]?=some (.cells #[dv'] T0 (0,0))∧Own tU8 w' B dv' (xs ++ wTag (k,bs))∧dv'.ownBlock ≠ some c∧Turns c dv dv' w w':=by
  have hmost:most=32767:=rfl
  have hcs:c < w.heap.size:=(Array.getElem?_eq_some_iff.1 hc).1
  have hwt:wTag (k,bs)=uvarint k ++ uvarint bs.length ++ bs:=by simp only [wTag,whole_of hm]
  rw [hwt] at hl ⊢
  simp only [List.length_append] at hl
  have hcell:∀ {w:World} {v:Value},w.heap[c]?=some (.cells #[v] T0 (0,0))→w.cell? ⟨c,0,none⟩=some v:=fun h=>by rw [cell_of_row _ _ _ _ _ _ h];rfl
  have ownNe:∀ {d d':Value} {w1 w2:World},BelG B d d' w1 w2→d.ownBlock ≠ some c→c < w1.heap.size→d'.ownBlock ≠ some c:=fun h h1 h2=>by
    rcases h.2.2 with e | ⟨b,e,hb⟩
    · rw [e];exact h1
    · rw [e];intro e2;cases e2;omega
  refine fCa hf hb hn (by simp) fun a0 hs hd ha=>?_
  have k0:=ha 0 _ rfl
  have k1:=ha 1 _ rfl
  have k2:=ha 2 _ rfl
  simp only [List.getElem_toArray,List.getElem_cons_zero,List.getElem_cons_succ] at k0 k1 k2
  have hc0:=hcell hc
  refine SC.wp_seq (SC.wp_reg ?_)
  iterate 2 (apply ops_1;(focus (simp (disch:=(try simp only [sPu]);omega) [h0,k0,k2,hc0];try rfl)))
  refine ops_call (cU k hk).1 ((cU k hk).2 w B dv xs ho (by omega) (by omega)) (by simp (disch:=(try simp only [sPu]);omega) [k0]) ?_
  rintro e w1 ⟨d1,rfl,o1,g1,hs1⟩
  refine ⟨_,rfl,?_⟩
  have n1:=ownNe g1 hne hcs
  have hc1:w1.heap[c]?=some (.cells #[dv] T0 (0,0)):=by rw [g1.2.1 c hcs fun e=>hne e.symm];exact hc
  refine ops_stR (b:=c) (i:=0) (cs:=#[dv]) (v:=d1) h0 (by simp (disch:=(try simp only [sPu]);omega) [k2]) (by simp (disch:=(try simp only [sPu]);omega)) (own_one o1) hc1 (by simp) ?_
  have t1:Turns c dv d1 w (w1.setRow c (#[dv].setIfInBounds 0 d1)):=Turns.of g1
  have hr1:(w1.setRow c (#[dv].setIfInBounds 0 d1)).heap[c]?=some (.cells #[d1] T0 (0,0)):=setRow_heap _ _ _ _ _ _ hc1
  have o1':Own tU8 (w1.setRow c (#[dv].setIfInBounds 0 d1)) B d1 (xs ++ uvarint k):=own_row o1 n1
  generalize w1.setRow c (#[dv].setIfInBounds 0 d1)=w2 at t1 hr1 o1' ⊢
  refine oNi ?_
  simp only [Exit.then]
  have hc2:=hcell hr1
  have hcs2:c < w2.heap.size:=(Array.getElem?_eq_some_iff.1 hr1).1
  have hw32:IntKind.u32.wrap (bs.length:Int)=(bs.length:Int):=by
    rw [wrap_u32];omega
  refine SC.wp_seq (SC.wp_reg ?_)
  iterate 4 (apply ops_1;(focus (simp (disch:=(try simp only [sPu]);omega) [h0,k1,k2,hc2,hs0,h1k,h2k,hw32];try rfl)))
  refine ops_call (cU bs.length (by omega)).1 ((cU bs.length (by omega)).2 w2 B d1 (xs ++ uvarint k) o1' (by have:=t1.size;omega) (by rw [List.length_append];omega)) (by simp (disch:=(try simp only [sPu]);omega)) ?_
  rintro e w3 ⟨d3,rfl,o3,g3,hs3⟩
  refine ⟨_,rfl,?_⟩
  have n3:=ownNe g3 n1 hcs2
  have hc3:w3.heap[c]?=some (.cells #[d1] T0 (0,0)):=by rw [g3.2.1 c hcs2 fun e=>n1 e.symm];exact hr1
  refine ops_stR (b:=c) (i:=0) (cs:=#[d1]) (v:=d3) h0 (by simp (disch:=(try simp only [sPu]);omega) [k2]) (by simp (disch:=(try simp only [sPu]);omega)) (own_one o3) hc3 (by simp) ?_
  have t3:Turns c d1 d3 w2 (w3.setRow c (#[d1].setIfInBounds 0 d3)):=Turns.of g3
  have hr3:(w3.setRow c (#[d1].setIfInBounds 0 d3)).heap[c]?=some (.cells #[d3] T0 (0,0)):=setRow_heap _ _ _ _ _ _ hc3
  have o3':Own tU8 (w3.setRow c (#[d1].setIfInBounds 0 d3)) B d3 ((xs ++ uvarint k) ++ uvarint bs.length):=own_row o3 n3
  generalize w3.setRow c (#[d1].setIfInBounds 0 d3)=w4 at t3 hr3 o3' ⊢
  refine oNi ?_
  simp only [Exit.then]
  have t4:=t1.trans t3
  have hc4:=hcell hr3
  have hcs4:c < w4.heap.size:=(Array.getElem?_eq_some_iff.1 hr3).1
  have hbs4:BytesAt w4 (· < B) base bs:=bytesAt_turns hbs (by omega) hBc (fun b hb=>(own_ltB ho hb).1) t4
  obtain ⟨hu,i,hi,hz,hsz1,hby⟩:=u8s_of hT
  have hlim:lim=70368744177664:=rfl
  refine SC.wp_reg ?_
  iterate 2 (apply ops_1;(focus (simp (disch:=(try simp only [sPu]);omega) [h0,k1,k2,hc4];try rfl)))
  refine oNo rfl (opw_of fun o next Q hd2 hop hnn=>?_)
  obtain ⟨d5,w5,hrun,hown,hgr,hob⟩:=run_append_src2 (P:=P) w4 B T0 T0 o.type tU8 i (.int .u8 0) 1 1 hu hi hz hsz1 hby rfl (by decide) d3 _ (cellsOf ((xs ++ uvarint k) ++ uvarint bs.length)) o3' (.slice base bs.length cap) bs.length (cellsOf bs) (src_bytes hT hbs4 cap) (by simp only [maxLen,List.length_append];omega) (by simp only [List.length_append];omega) (by have:=t4.size;omega)
  have hop':o.op=.call ⟨.builtin .append,#[.tmp 13,.tmp 14],#[T0,T0]⟩:=stripOp_eq (by simp) hop
  have o5:Own tU8 w5 B d5 (((xs ++ uvarint k) ++ uvarint bs.length) ++ bs):=by
    unfold Own
    rw [cellsOf_append,List.length_append]
    exact hown
  have g5:BelG B d3 d5 w4 w5:=⟨(Below.refl B w4).grown hgr (by have:=t4.size;omega) (fun k hk=>own_u8 o3' k hk),hgr.block,hob⟩
  have hrun2:∀ av:Operand→Value,av (.tmp 13)=d3→av (.tmp 14)=.slice base bs.length cap→(execOp av o).run P w4=.ok (.value d5) w5:=by
    intro av e1 e2
    simp [execOp,hop',resolve,invoke,builtin,e1,e2,hrun]
  rw [hrun2 _ (by simp (disch:=(try simp only [sPu]);omega)) (by simp (disch:=(try simp only [sPu]);omega) [k1]),Oper.upon_value,hd2]
  refine hnn _ _ ?_
  have n5:=ownNe g5 n3 hcs4
  have hc5:w5.heap[c]?=some (.cells #[d3] T0 (0,0)):=by rw [g5.2.1 c hcs4 fun e=>n3 e.symm];exact hr3
  refine ops_stR (b:=c) (i:=0) (cs:=#[d3]) (v:=d5) h0 (by simp (disch:=(try simp only [sPu]);omega) [k2]) (by simp (disch:=(try simp only [sPu]);omega)) (own_one o5) hc5 (by simp) ?_
  have t5:Turns c d3 d5 w4 (w5.setRow c (#[d3].setIfInBounds 0 d5)):=Turns.of g5
  have hr5:(w5.setRow c (#[d3].setIfInBounds 0 d5)).heap[c]?=some (.cells #[d5] T0 (0,0)):=setRow_heap _ _ _ _ _ _ hc5
  have o5':Own tU8 (w5.setRow c (#[d3].setIfInBounds 0 d5)) B d5 (((xs ++ uvarint k) ++ uvarint bs.length) ++ bs):=own_row o5 n5
  refine oNi ?_
  refine bodyPost_end (v:=.tuple #[]) ?_ (by simp [dPu,hd]) ⟨rfl,d5,hr5,by simpa [List.append_assoc] using o5',n5,t4.trans t5⟩
  simp [results,hr]
variable {a:Act} {w:World} {K:Act→World→Prop} {d:Option Tmp} {g:Option (Nat × Bool)}
theorem opw_range {T r clock:Nat} {k e:TypeId} {x:Operand} {es:Array MapEntry} (hT:P.underlying T=some (.map k e)) (hx:a.eval x=.map (some r)) (hr:w.heap[r]?=some (.map es clock))
    (h:K (a.put d (.pointer (some ⟨w.heap.size,0,none⟩))) (w.alloc (.mapIter (some r) clock #[] clock))):opw P ⟨d,.range T x,g⟩ a w K :=
  oVa (by simp) (fun o ho=>by simp [execOp,ho,hx,run_range_map w T k e r es clock hT hr]) h
theorem opw_next {it r since c0 clock:Nat} {seen:Array Nat} {es:Array MapEntry} {x:Operand} (hx:a.eval x=.pointer (some ⟨it,0,none⟩)) (hi:w.heap[it]?=some (.mapIter (some r) since seen c0)) (hr:w.heap[r]?=some (.map es clock)) (hold:∀ x ∈ es.toList,x.born < since) (hsc:since≤c0)
    (h0:(leftOf es seen).size=0→K (a.put d (.tuple #[.bool false])) w)
    (h1:∀ e ∈ (leftOf es seen).toList,∀ w1:World,(w1=w∨w1=w.drew)→K (a.put d (.tuple #[.bool true,e.key,e.val])) (ChangeMaps.setBlock w1 it (.mapIter (some r) since (seen.push e.born) clock))):opw P ⟨d,.next x false,g⟩ a w K:=by
  refine opw_of fun o next Q hd hop hn=>?_
  have hop':=stripOp_eq (by simp) hop
  rcases run_next_at (P:=P) w o.type it r since c0 seen es clock hi hr hold hsc with ⟨h2,h3⟩ | ⟨e,he,w1,h2,h3⟩
  · rw [show (execOp a.eval o).run P w=.ok (.value (.tuple #[.bool false])) w by simp [execOp,hop',hx,h3],Oper.upon_value,hd]
    exact hn _ _ (h0 h2)
  · rw [show (execOp a.eval o).run P w=.ok (.value (.tuple #[.bool true,e.key,e.val])) (ChangeMaps.setBlock w1 it (.mapIter (some r) since (seen.push e.born) clock)) by simp [execOp,hop',hx,h3],Oper.upon_value,hd]
    exact hn _ _ (h1 e he w1 h2)
theorem opw_entry {it r since clock:Nat} {seen:Array Nat} {es:Array MapEntry} {e:MapEntry} {x:Operand} (hx:a.eval x=.pointer (some ⟨it,0,none⟩)) (hi:w.heap[it]?=some (.mapIter (some r) since (seen.push e.born) clock)) (hr:w.heap[r]?=some (.map es clock)) (he:e ∈ es.toList) (hnd:(es.toList.map (·.born)).Nodup)
    (h:K (a.put d (.tuple #[e.key,e.val])) w):opw P ⟨d,.entry x,g⟩ a w K :=
  oVa (by simp) (fun o ho=>by simp [execOp,ho,hx,run_entry_at w it r since seen es clock e hi hr he hnd]) h
theorem opw_callv {f : FuncId} {x : Operand} {args : Array Operand} {lb argsV : Array Value} {fn : Func} {R : Ending → World → Prop} (hx : a.eval x = .func (.func f) #[] lb) (hf : P.funcs[f]? = some fn) (hb : fn.body.isSome = true) (hnm : (fn.name == "runtime.NumGoroutine") = false)
    (hargs:args.map a.eval ++ lb=argsV) (hc:Calls P f argsV w R) (hR:∀ e w',R e w'→∃ v,e=.returned v∧K (a.put d v) w'):opw P ⟨d,.call ⟨.value x,args,#[]⟩,g⟩ a w K:=by
  refine opw_of fun o next Q hd ho hn=>?_
  have ho':∃ t,o.op=.call ⟨.value x,args,t⟩:=by
    unfold stripOp at ho
    split at ho
    · rename_i heq
      simp at ho
      obtain ⟨rfl,rfl⟩:=ho
      exact ⟨_,heq⟩
    · rename_i hne
      exact absurd ho (hne _ _ _)
  obtain ⟨t,ho'⟩:=ho'
  have hr:(execOp a.eval o).run P w=.ok (.enter f argsV) w:=by
    have h0:=run_callFunc (P:=P) (w:=w) (args:=argsV) hf hb hnm
    rw [← hargs] at h0 ⊢
    simp [execOp,ho',resolve,Deferred.ofValue,invoke,hx,h0]
  rw [hr,Oper.upon_enter]
  refine hc.mono ?_
  intro e w' hq
  obtain ⟨v,rfl,hk⟩:=hR e w' hq
  rw [hd]
  exact hn _ _ hk
theorem opw_lookup {T r k clock:Nat} {m x:Operand} {es:Array MapEntry} {F:Nat→Prop} {u:List (Nat × Bytes)} (hT:mapU P T=true) (hm:a.eval m=.map (some r)) (hx:a.eval x=.int .u32 (k:Int))
    (hr:w.heap[r]?=some (.map es clock)) (ht:TagsEs w F es clock u) {y:Nat × Bytes} (hy:y ∈ u) (hyk:y.1=k) (h:∀ base cap,BytesAt w F base y.2→K (a.put d (.slice base y.2.length cap)) w):opw P ⟨d,.lookup T m x false,g⟩ a w K:=by
  obtain ⟨-,kt,e,hu,hk⟩:=mapU_of hT
  have hik:MapKept.IsKey (.int .u32) (.int .u32 (k:Int)):=rfl
  have hks:∀ z ∈ es.toList,MapKept.IsKey (.int .u32) z.key:=fun z hz=>by
    have:z.key ∈ u.map fun x=>Value.int .u32 (x.1:Int):=ht.1.mem_iff.1 (List.mem_map_of_mem hz)
    obtain ⟨x,_,hxe⟩:=List.mem_map.1 this
    rw [← hxe]
    rfl
  rcases MapKept.findNow_spec hik es.toList 0 hks with ⟨h1,h2⟩ | ⟨j,e0,h1,h2,h3⟩
  · exfalso
    have:Value.int .u32 (y.1:Int) ∈ es.toList.map (·.key):=ht.1.mem_iff.2 (List.mem_map_of_mem (f:=fun x:Nat × Bytes=>Value.int .u32 (x.1:Int)) hy)
    obtain ⟨z,hz,hze⟩:=List.mem_map.1 this
    exact h2 z hz (by rw [hze,hyk])
  · have hj:es[j]?=some e0:=by simpa using h2
    have hmem:e0 ∈ es.toList:=Array.mem_toList_iff.2 (Array.mem_of_getElem? hj)
    obtain ⟨base,cap,hv,hb⟩:=ht.2.2 e0 hmem y hy (by rw [h3,hyk])
    refine oVa (v:=.slice base y.2.length cap) (by simp) (fun p hp=>?_) (h base cap hb)
    have hj':es.toList[j]?=some e0:=by simpa using hj
    simp [execOp,hp,hm,hx,Instr.lookup,run_underlying hu,MapKept.run_getObj_map hr,MapKept.run_checkKey hk hik,MapKept.run_findKey hk h1,Result.andThen,hj,hv]
end
end Go.Proofs.YtmapoohbongifaaGreatDoor.K
namespace Go.Proofs.YtmapoohbongifaaGreatDoor.K
open Go Go.RowKit Go.Proofs.YtmapoohbongifaaGreatDoor.T
attribute [local simp] eTm eCo pNo gTp gTn qv qcall vop iop
set_option linter.unusedVariables false
set_option linter.unusedSimpArgs false
set_option maxHeartbeats 8000000
def sc_TEach (T0 T1 T2 T3 T4 F0 CL:Nat):SC:=.seq (.seq (.reg [mv 8 0,nilc 9 8,fa 10 T0 9 0,ld 11 T1 10,lenOp 12 T1 11,⟨some 13,.binOp .eql T2 (.tmp 12) (.const (.int .i64 0)) T2,none⟩]) (.cond (.tmp 13) (.ret) (.skip))) (.seq (.reg [mv 14 0,nilc 15 14,fa 16 T0 15 0,ld 17 T1 16,lenOp 18 T1 17,⟨some 19,.makeSlice T3 (.const (.int .i64 0)) (.tmp 18),none⟩,⟨some 4,.alloc T3,none⟩,⟨none,.store T3 (.tmp 4) (.tmp 19),none⟩]) (.seq (.seq (.reg [mv 20 0,nilc 21 20,fa 22 T0 21 0,ld 23 T1 22,⟨some 24,.range T1 (.tmp 23),none⟩]) (.block 0 (.loop (.seq (.reg [⟨some 25,.next (.tmp 24) false,none⟩,⟨some 26,.extract (.tmp 25) 0,none⟩]) (.seq (.cond (.tmp 26) (.skip) (.exit 0)) (.block 1 (.seq (.reg [⟨some 27,.entry (.tmp 24),none⟩,⟨some 28,.extract (.tmp 27) 0,none⟩,asg 5 28]) (.reg [ld 29 T3 4,mv 30 5,⟨some 31,.buildSlice T3 1 #[(0,(.tmp 30))],none⟩,⟨some 32,.call ⟨.builtin .append,#[(.tmp 29),(.tmp 31)],#[T3,T3]⟩,none⟩,⟨none,.store T3 (.tmp 4) (.tmp 32),none⟩])))))))) (.seq (.reg [ld 33 T3 4,⟨some 34,.makeInterface T3 (.tmp 33),none⟩,⟨some 35,.makeFunc (.func CL) #[] #[(.tmp 4)],none⟩,cal 36 F0 [34,35]]) (.seq (.reg [ld 37 T3 4,lenOp 38 T3 37,⟨some 39,.move (.const (.int .i64 0)),none⟩]) (.block 2 (.loop (.seq (.reg [⟨some 40,.binOp .lss T2 (.tmp 39) (.tmp 38) T2,none⟩]) (.seq (.cond (.tmp 40) (.skip) (.exit 2)) (.seq (.block 3 (.seq (.reg [⟨some 41,.indexAddr T3 (.tmp 37) (.tmp 39),none⟩,ld 42 T4 41,asg 7 42]) (.reg [mv 43 1,mv 44 7,mv 45 0,nilc 46 45,fa 47 T0 46 0,ld 48 T1 47,mv 49 7,⟨some 50,.lookup T1 (.tmp 48) (.tmp 49) false,none⟩,⟨some 51,.call ⟨.value (.tmp 43),#[(.tmp 44),(.tmp 50)],#[]⟩,none⟩]))) (.reg [⟨some 52,.binOp .add T2 (.tmp 39) (.const (.int .i64 1)) T2,none⟩,mv 39 52]))))))))))
abbrev encK (k:Nat):Value:=.int .u32 (k:Int)
def SortC (P:Program) (FS CL TU T32:Nat):Prop:=FnOK P FS∧∀ (w:World) (B q blk cap:Nat) (ks:List Nat),q ≠ blk→q < w.heap.size→w.heap[q]?=some (.cells #[.slice (some ⟨blk,0,none⟩) ks.length cap] TU (0,0))→w.ownsRow B T32 1 (.slice (some ⟨blk,0,none⟩) ks.length cap) ks.length (ks.map encK)→ks.length≤32767 →
  Calls P FS #[.iface TU (.slice (some ⟨blk,0,none⟩) ks.length cap),.func (.func CL) #[] #[.pointer (some ⟨q,0,none⟩)]] w fun e w'=>e=.returned (.tuple #[])∧w'.os=w.os∧w'.tape=w.tape∧w'.output=w.output∧w.heap.size≤w'.heap.size∧(∀ j,j < w.heap.size→j ≠ blk→w'.heap[j]?=w.heap[j]?) ∧
    ∃ ks':List Nat,ks'.Perm ks∧ks'.Pairwise (·≤·)∧∀ i k,ks'[i]?=some k→w'.cell? ⟨blk,i,none⟩=some (encK k)
theorem perm_sorted:∀ (l2 l1:List Nat),l1.Perm l2→l1.Pairwise (·≤·)→l2.Pairwise (· < ·)→l1=l2
  | [],l1,h,_,_=>List.Perm.eq_nil h
  | y :: r2,[],h,_,_=>absurd h.length_eq (by simp)
  | y :: r2,x :: r1,h,h1,h2=>by
    have p1:=List.pairwise_cons.1 h1
    have p2:=List.pairwise_cons.1 h2
    have hxy:y≤x:=by
      rcases List.mem_cons.1 (h.mem_iff.1 (.head _)) with e | hm
      · omega
      · exact Nat.le_of_lt (p2.1 x hm)
    have hyx:x≤y:=by
      rcases List.mem_cons.1 (h.mem_iff.2 (List.mem_cons_self:y ∈ y :: r2)) with e | hm
      · omega
      · exact p1.1 y hm
    obtain rfl:x=y:=by omega
    rw [perm_sorted r2 r1 h.cons_inv p1.2 p2.2]
theorem left_perm {es:Array MapEntry} {seen:Array Nat} {e:MapEntry} (hn:(es.toList.map (·.born)).Nodup) (he:e ∈ (leftOf es seen).toList):(leftOf es seen).toList.Perm (e :: (leftOf es (seen.push e.born)).toList):=by
  have key:∀ (l:List MapEntry),(l.map (·.born)).Nodup→e ∈ l.filter (fun x=>!seen.contains x.born)→(l.filter fun x=>!seen.contains x.born).Perm (e :: l.filter fun x=>!(seen.push e.born).contains x.born):=by
    intro l
    induction l with
    | nil=>intro _ h;simp at h
    | cons x r ih =>
      intro hn h
      have hn':=List.nodup_cons.1 (by simpa using hn:(x.born :: r.map (·.born)).Nodup)
      by_cases hx:x=e
      · subst hx
        have hs:seen.contains x.born=false:=by
          have:=(List.mem_filter.1 h).2
          simpa using this
        have hr:(r.filter fun y=>!seen.contains y.born)=r.filter fun y=>!(seen.push x.born).contains y.born:=by
          refine List.filter_congr fun y hy=>?_
          rw [contains_push]
          have:(y.born == x.born)=false:=by
            cases hc:y.born == x.born with
            | false=>rfl
            | true=>exact absurd (by rw [← beq_iff_eq.1 hc];exact List.mem_map_of_mem hy) hn'.1
          rw [this,Bool.or_false]
        have c2:(seen.push x.born).contains x.born=true:=by rw [contains_push];simp
        rw [List.filter_cons,List.filter_cons,hs,c2]
        simp only [Bool.not_false,if_true,Bool.not_true,Bool.false_eq_true,if_false]
        rw [hr]
      · have hmem:e ∈ r.filter fun y=>!seen.contains y.born:=by
          have h1:=List.mem_filter.1 h
          refine List.mem_filter.2 ⟨?_,h1.2⟩
          rcases List.mem_cons.1 h1.1 with e1 | h2
          · exact absurd e1.symm hx
          · exact h2
        have hne:(x.born == e.born)=false:=by
          cases hc:x.born == e.born with
          | false=>rfl
          | true=>exact absurd (by rw [beq_iff_eq.1 hc];exact List.mem_map_of_mem (List.mem_filter.1 hmem).1) hn'.1
        have hi:=ih hn'.2 hmem
        rw [List.filter_cons,List.filter_cons,contains_push,hne,Bool.or_false]
        cases seen.contains x.born
        · simp only [Bool.not_false,if_true]
          exact (hi.cons x).trans (List.Perm.swap _ _ _)
        · simp only [Bool.not_true,Bool.false_eq_true,if_false]
          exact hi
  have e1:∀ s:Array Nat,(leftOf es s).toList=es.toList.filter fun x=>!s.contains x.born:=fun s=>by unfold leftOf;rw [Array.toList_filter]
  rw [e1] at he
  rw [e1,e1]
  exact key es.toList hn he
theorem left_none (es:Array MapEntry):(leftOf es #[]).toList=es.toList:=by
  unfold leftOf
  rw [Array.toList_filter]
  exact List.filter_eq_self.2 fun x _=>by simp
section
variable {P:Program} {a:Act} {w:World} {K:Act→World→Prop} {d:Option Tmp} {g:Option (Nat × Bool)}
theorem opw_make0 {T E n:Nat} {x y:Operand} {i:TypeInfo} {z:Value} {k k':IntKind} (hT:P.underlying T=some (.slice E)) (hi:P.info? E=some i) (hz:i.zero=some z) (hs:i.size=1) (hby:i.bytes≤1000) (hx:a.eval x=.int k 0) (hy:a.eval y=.int k' (n:Int)) (hn:n≤100000)
    (h:K (a.put d (.slice (some ⟨w.heap.size,0,none⟩) 0 n)) (w.alloc (.cells (madeCells z.cells n) E))):opw P ⟨d,.makeSlice T x y,g⟩ a w K:=by
  have hb:(i.bytes:Int) * (n:Int)≤281474976710656:=by
    have:i.bytes * n≤1000 * 100000:=Nat.mul_le_mul hby hn
    rw [← Int.natCast_mul]
    omega
  have hr:=run_make (P:=P) w T E i z hT hi hz k k' 0 n (Int.le_refl _) (by omega) hb (by omega)
  simp only [Int.toNat_natCast,Int.toNat_zero,hs,Nat.mul_one] at hr
  refine oVa (by simp) (fun p hp=>?_) h
  simp only [execOp,hp,hx,hy]
  simp [hr]
theorem opw_build1 {T E:Nat} {x:Operand} {i:TypeInfo} {z v:Value} (hT:P.underlying T=some (.slice E)) (hi:P.info? E=some i) (hz:i.zero=some z) (hs:i.size=1) (hx:a.eval x=v) (hv:v.oneCell'=true)
    (h:K (a.put d (.slice (some ⟨w.heap.size,0,none⟩) 1 1)) (w.alloc (.cells #[v] E))):opw P ⟨d,.buildSlice T 1 #[(0,x)],g⟩ a w K:=by
  refine oVa (by simp) (fun p hp=>?_) h
  have hr:=run_buildSlice (P:=P) w T E 1 #[(0,v)] #[v] i z hT hi hz (by rw [hs];decide) (by rw [hs];decide) (by
    rw [hs]
    have hz1:∀ (zf:Nat→Value),(Array.range (1 * 1)).map zf=#[zf 0]:=fun zf=>Array.ext' (by simp [Array.toList_map,Array.toList_range,List.range,List.range.loop])
    rw [hz1]
    simp [Instr.fill,cells_oneCell hv])
  simp only [execOp,hp]
  simp [hx,hr]
theorem opw_append32 {T E B:Nat} {x y:Operand} {i:TypeInfo} {z lv:Value} {ts:Array TypeId} {ks:List Nat} {k b:Nat} (hT:P.underlying T=some (.slice E)) (hi:P.info? E=some i) (hz:i.zero=some z) (hzc:z.cells.size=1) (hs:i.size=1) (hby:i.bytes≤1000) (hts:ts=#[T,T]) (hx:a.eval x=lv) (hy:a.eval y=.slice (some ⟨b,0,none⟩) 1 1)
    (ho:w.ownsRow B E 1 lv ks.length (ks.map encK)) (hB:B≤w.heap.size) (hlen:ks.length≤100000) (hc:w.cell? ⟨b,0,none⟩=some (encK k))
    (h:∀ lv' w',w'.ownsRow B E 1 lv' (ks ++ [k]).length ((ks ++ [k]).map encK)→w.grownBy w' lv.ownBlock→(lv'.ownBlock=lv.ownBlock∨∃ b,lv'.ownBlock=some b∧w.heap.size≤b)→K (a.put d lv') w'):opw P ⟨d,.call ⟨.builtin .append,#[x,y],ts⟩,g⟩ a w K:=by
  subst hts
  have hb:(ks.length+1) * i.bytes≤140737488355328:=Nat.le_trans (Nat.mul_le_mul (show ks.length+1≤100001 by omega) hby) (by decide)
  refine opw_of fun o next Q hd hop hn=>?_
  obtain ⟨v',w',hr,h2,h3,h4⟩:=run_append_src2 (P:=P) w B T T o.type E i z 1 i.bytes hT hi hz hs rfl hzc (by decide) lv ks.length (ks.map encK) ho (.slice (some ⟨b,0,none⟩) 1 1) 1 [encK k] (Src.ofSlice w hT ⟨b,0,none⟩ 1 1 [encK k] rfl (fun j u hj=>by
    cases j with
    | zero=>simp at hj;subst hj;rw [add_none];exact hc
    | succ j=>simp at hj) (by intro v hv;simp at hv;subst hv;rfl)) (by simp only [maxLen];omega) hb hB
  have hop':o.op=.call ⟨.builtin .append,#[x,y],#[T,T]⟩:=stripOp_eq (by simp) hop
  have hr':(execOp a.eval o).run P w=.ok (.value v') w':=by
    simp [execOp,hop',resolve,invoke,builtin,hx,hy,hr]
  rw [hr',Oper.upon_value,hd]
  refine hn _ _ (h v' w' ?_ h3 h4)
  rw [List.length_append,List.map_append]
  exact h2
theorem opw_iface {T E:Nat} {x:Operand} {v:Value} (hT:P.underlying T=some (.slice E)) (hx:a.eval x=v) (h:K (a.put d (.iface T v)) w):opw P ⟨d,.makeInterface T x,g⟩ a w K :=
  oVa (by simp) (fun o ho=>by simp [execOp,ho,hx,Instr.makeInterface,run_underlying hT]) h
theorem opw_mkFunc {CL:Nat} {x:Operand} {v:Value} (hx:a.eval x=v) (h:K (a.put d (.func (.func CL) #[] #[v])) w):opw P ⟨d,.makeFunc (.func CL) #[] #[x],g⟩ a w K :=
  oVa (by simp) (fun o ho=>by simp [execOp,ho,hx,Instr.makeFunc]) h
end
structure EL (TU T32:Nat) (w:World) (q it r clock:Nat) (es:Array MapEntry) (v0 v1:Value) (seen:Array Nat) (ks:List Nat) (lv:Value) (a:Act) (w':World):Prop where
  size:a.tmps.size=53
  defers:a.defers=[]
  s0:getT a 0=v0
  s1:getT a 1=v1
  s4:getT a 4=.pointer (some ⟨q,0,none⟩)
  s24:getT a 24=.pointer (some ⟨it,0,none⟩)
  below:Below w.heap.size w w'
  qrow:w'.heap[q]?=some (.cells #[lv] TU (0,0))
  itr:w'.heap[it]?=some (.mapIter (some r) clock seen clock)
  own:w'.ownsRow w.heap.size T32 1 lv ks.length (ks.map encK)
  ownq:lv.ownBlock ≠ some q∧lv.ownBlock ≠ some it
  perm:((leftOf es seen).toList.map (·.key) ++ ks.map encK).Perm (es.toList.map (·.key))
structure EL2 (tU8 TB:Nat) (B c n:Nat) (xs:Bytes) (u:List (Nat × Bytes)) (w5:World) (dv lv:Value) (v0 v1:Value) (i:Nat) (dvi:Value) (a:Act) (w':World):Prop where
  size:a.tmps.size=53
  defers:a.defers=[]
  s0:getT a 0=v0
  s1:getT a 1=v1
  s37:getT a 37=lv
  s38:getT a 38=.int .i64 (n:Int)
  s39:getT a 39=.int .i64 (i:Int)
  turns:Turns c dv dvi w5 w'
  crow:w'.heap[c]?=some (.cells #[dvi] TB (0,0))
  own:Own tU8 w' B dvi (xs ++ (u.take i).flatMap wTag)
  ne:dvi.ownBlock ≠ some c
theorem row_keep {w w':World} {B E n:Nat} {v:Value} {xs:List Value} (h:w.ownsRow B E 1 v n xs) (hk:∀ k,v.ownBlock=some k→w'.heap[k]?=w.heap[k]?):w'.ownsRow B E 1 v n xs:=by
  refine ⟨h.1,h.2.imp id ?_⟩
  rintro ⟨g,cap,cur,h1,h2,h3,h4⟩
  exact ⟨g,cap,cur,h1,h2,by rw [hk g (by rw [h1];rfl)];exact h3,h4⟩
theorem w64E {n:Int} (h1:-9223372036854775808≤n) (h2:n < 9223372036854775808):IntKind.i64.wrap n=n:=by rw [IntKind.wrap_i64];omega
theorem own_keepB {tU8:Nat} {w w':World} {B:Nat} {v:Value} {xs:Bytes} (h:Own tU8 w B v xs) (hk:∀ k,v.ownBlock=some k→w'.heap[k]?=w.heap[k]?):Own tU8 w' B v xs:=row_keep h hk
section
variable {P:Program} {f:FuncId} {fn:Func}
def EachC (P:Program) (tU8 TB CL2:Nat) (G:List (Nat × Bytes)→Prop) (f:FuncId):Prop:=∀ (w:World) (B b o c:Nat) (u:List (Nat × Bytes)) (dv:Value) (xs:Bytes),HTags G w (· < B) b o u→b < B→Own tU8 w B dv xs→dv.ownBlock ≠ some c→w.heap[c]?=some (.cells #[dv] TB (0,0))→B≤c→xs.length+(u.flatMap wTag).length≤lim →
  Calls P f #[.pointer (some ⟨b,o,none⟩),.func (.func CL2) #[] #[.pointer (some ⟨c,0,none⟩)]] w fun e w'=>e=.returned (.tuple #[])∧∃ dv',w'.heap[c]?=some (.cells #[dv'] TB (0,0))∧Own tU8 w' B dv' (xs ++ u.flatMap wTag)∧dv'.ownBlock ≠ some c∧Turns c dv dv' w w'
theorem each_ok {G:List (Nat × Bytes)→Prop} {TT TM TI TU T32 FS CL CL2 tU8 TB:Nat} {i32 iU:TypeInfo} {z32 zU:Value}
    (hTM:mapU P TM=true) (hF0:fieldOff P TT 0=some 0) (hTU1:oneB P TU=true) (hTUs:sliceN P TU=some 1) (hTUu:P.underlying TU=some (.slice T32)) (hT32:oneB P T32=true) (hI:P.info? T32=some i32) (hZ:i32.zero=some z32) (hZc:z32.cells=#[.int .u32 0]) (hS:i32.size=1) (hBy:i32.bytes≤1000)
    (hIU:P.info? TU=some iU) (hZU:iU.zero=some zU) (hZUc:zU.cells=#[.slice none 0 0]) (cSort:SortC P FS CL TU T32) (oCl:FnOK P CL2)
    (cCl:∀ (w:World) (B c k cap:Nat) (dv:Value) (xs bs:Bytes) (base:Option Addr),Own tU8 w B dv xs→dv.ownBlock ≠ some c→w.heap[c]?=some (.cells #[dv] TB (0,0))→B≤c→k < 4294967296→BytesAt w (· < B) base bs→bs.length≤most→xs.length+(wTag (k,bs)).length≤lim →
      Calls P CL2 #[.int .u32 (k:Int),.slice base bs.length cap,.pointer (some ⟨c,0,none⟩)] w fun e w'=>e=.returned (.tuple #[])∧∃ dv',w'.heap[c]?=some (.cells #[dv'] TB (0,0))∧Own tU8 w' B dv' (xs ++ wTag (k,bs))∧dv'.ownBlock ≠ some c∧Turns c dv dv' w w')
    (hf:P.funcs[f]?=some fn) (hb:fn.body.map strip=some (sc_TEach TT TM TI TU T32 FS CL)) (hn:fn.ntmps=53) (hr:fn.results=#[]):EachC P tU8 TB CL2 G f:=by
  intro w B b o c u dv xs hu hbB ho hne hc hBc hl
  have hcs:c < w.heap.size:=(Array.getElem?_eq_some_iff.1 hc).1
  obtain ⟨v,hv,hcnt⟩:=hTags_size hu
  obtain ⟨-,huk,hum,hux,halt⟩:=hu
  have hmost:most=32767:=rfl
  have hlim:lim=70368744177664:=rfl
  obtain ⟨hTM1,kT,eT,hTMu,hkT⟩:=mapU_of hTM
  have hmT:mapT P TM=true:=by unfold mapT;rw [hTMu]
  refine fCa hf hb hn (by simp) fun a0 hs hd ha=>?_
  have k0:=ha 0 _ rfl
  have k1:=ha 1 _ rfl
  simp only [List.getElem_toArray,List.getElem_cons_zero,List.getElem_cons_succ] at k0 k1
  have hlenEq:v=.map none∧u.length=0∨∃ r es clock,v=.map (some r)∧w.heap[r]?=some (.map es clock)∧es.size=u.length:=by
    rcases hcnt with ⟨e1,e2⟩ | h
    · exact .inl ⟨e1,by rw [e2];rfl⟩
    · exact .inr h
  refine SC.wp_seq (SC.wp_seq (SC.wp_reg ?_))
  iterate 4 (apply ops_1;(focus (simp (disch:=(try simp only [sPu]);omega) [k0,hF0,hTM1,hv];try rfl)))
  refine oNo rfl (opw_lenMapN (v:=v) (n:=u.length) hmT (by simp (disch:=(try simp only [sPu]);omega)) rfl hlenEq ?_)
  iterate 1 (apply ops_1;(focus (simp (disch:=(try simp only [sPu]);omega) ;try rfl)))
  refine oNi ?_
  simp only [Exit.then]
  by_cases hnil:u=[]
  · subst hnil
    refine SC.wp_cond (t:=true) (by simp (disch:=(try simp only [sPu]);omega)) ?_
    rw [if_pos rfl]
    refine SC.wp_ret ?_
    simp only [Exit.then]
    exact bodyPost_ret (v:=.tuple #[]) (by simp [results,hr]) (by simp [dPu,hd]) ⟨rfl,dv,hc,by simpa using ho,hne,Turns.refl _ _ _⟩
  have hpos:0 < u.length:=List.length_pos_iff.2 hnil
  have hlen0:((u.length:Int) == 0)=false:=by simp;omega
  refine SC.wp_cond (t:=false) (by simp (disch:=(try simp only [sPu]);omega) [hlen0];try omega) ?_
  rw [if_neg (by simp)]
  refine SC.wp_skip ?_
  simp only [Exit.then]
  rcases halt with ⟨_,e⟩ | ⟨r,es,clock,hv',hrB,hes,hte⟩
  · exact absurd e hnil
  obtain rfl:v=.map (some r):=Option.some.inj (hv.symm.trans hv')
  have hsize:es.size=u.length:=by
    rcases hlenEq with ⟨e1,_⟩ | ⟨r',es',clock',e1,e2,e3⟩
    · cases e1
    · cases e1
      rw [hes] at e2
      cases e2
      exact e3
  have hBs:B≤w.heap.size:=by omega
  refine SC.wp_seq (SC.wp_reg ?_)
  iterate 4 (apply ops_1;(focus (simp (disch:=(try simp only [sPu]);omega) [k0,hF0,hTM1,hv];try rfl)))
  refine oNo rfl (opw_lenMapN (v:=.map (some r)) (n:=u.length) hmT (by simp (disch:=(try simp only [sPu]);omega)) rfl hlenEq ?_)
  refine oNo rfl (opw_make0 (k:=.i64) (k':=.i64) (n:=u.length) hTUu hI hZ hS hBy (by simp (disch:=(try simp only [sPu]);omega)) (by simp (disch:=(try simp only [sPu]);omega)) (by omega) ?_)
  refine oNo rfl (opw_alloc hIU hZU ?_)
  have hw1s:(w.alloc (.cells (madeCells z32.cells u.length) T32)).heap.size=w.heap.size+1:=by simp
  have hrow1:=heap_alloc_new w (.cells (madeCells z32.cells u.length) T32)
  have hb1:Below w.heap.size w (w.alloc (.cells (madeCells z32.cells u.length) T32)):=(Below.refl _ _).alloc (Nat.le_refl _) _
  generalize w.alloc (.cells (madeCells z32.cells u.length) T32)=w1 at hw1s hrow1 hb1 ⊢
  have hrow2:=heap_alloc_new w1 (.cells zU.cells TU)
  have hold2:(w1.alloc (.cells zU.cells TU)).heap[w.heap.size]?=w1.heap[w.heap.size]?:=Below.heap_alloc w1 _ _ (by omega)
  have hb2:Below w.heap.size w (w1.alloc (.cells zU.cells TU)):=hb1.alloc (by omega) _
  have hw2s:(w1.alloc (.cells zU.cells TU)).heap.size=w.heap.size+2:=by simp;omega
  rw [hw1s] at hrow2 ⊢
  rw [hZUc] at hrow2 hold2 hb2 hw2s ⊢
  generalize w1.alloc (.cells #[Value.slice none 0 0] TU)=w2 at hrow2 hold2 hb2 hw2s ⊢
  refine ops_stR (b:=w.heap.size+1) (i:=0) (cs:=#[.slice none 0 0]) (v:=.slice (some ⟨w.heap.size,0,none⟩) 0 u.length) hTU1 (by simp (disch:=(try simp only [sPu]);omega)) (by simp (disch:=(try simp only [sPu]);omega)) rfl hrow2 (by simp) ?_
  have hrow3:=setRow_heap w2 (w.heap.size+1) _ (#[Value.slice none 0 0].setIfInBounds 0 (.slice (some ⟨w.heap.size,0,none⟩) 0 u.length)) _ _ hrow2
  have hold3:(w2.setRow (w.heap.size+1) (#[Value.slice none 0 0].setIfInBounds 0 (.slice (some ⟨w.heap.size,0,none⟩) 0 u.length))).heap[w.heap.size]?=some (.cells (madeCells z32.cells u.length) T32 (0,0)):=by
    rw [setRow_other _ _ _ _ (by omega),hold2];exact hrow1
  have hb3:Below w.heap.size w (w2.setRow (w.heap.size+1) (#[Value.slice none 0 0].setIfInBounds 0 (.slice (some ⟨w.heap.size,0,none⟩) 0 u.length))):=below_setRow hb2 (by omega) _
  have hw3s:(w2.setRow (w.heap.size+1) (#[Value.slice none 0 0].setIfInBounds 0 (.slice (some ⟨w.heap.size,0,none⟩) 0 u.length))).heap.size=w.heap.size+2:=by simp;omega
  generalize w2.setRow (w.heap.size+1) (#[Value.slice none 0 0].setIfInBounds 0 (.slice (some ⟨w.heap.size,0,none⟩) 0 u.length))=w3 at hrow3 hold3 hb3 hw3s ⊢
  have hown3:w3.ownsRow w.heap.size T32 1 (.slice (some ⟨w.heap.size,0,none⟩) 0 u.length) 0 [] :=
    ⟨rfl,.inr ⟨w.heap.size,u.length,_,rfl,Nat.le_refl _,hold3,Nat.zero_le _,by simp only [maxLen];omega,by rw [size_madeCells,Nat.mul_one],by simp⟩⟩
  refine oNi ?_
  simp only [Exit.then]
  have hes3:w3.heap[r]?=some (.map es clock):=by rw [hb3.block r (by omega)];exact hes
  have hv3:w3.cell? ⟨b,o,none⟩=some (.map (some r)):=by rw [hb3.cell (p:=⟨b,o,none⟩) (by show b < w.heap.size;omega)];exact hv
  refine SC.wp_seq (SC.wp_seq (SC.wp_reg ?_))
  iterate 4 (apply ops_1;(focus (simp (disch:=(try simp only [sPu]);omega) [k0,hF0,hTM1,hv3];try rfl)))
  refine oNo rfl (opw_range hTMu (by simp (disch:=(try simp only [sPu]);omega)) hes3 ?_)
  refine oNi ?_
  simp only [Exit.then]
  have hit:=heap_alloc_new w3 (.mapIter (some r) clock #[] clock)
  have hold4:∀ j,j < w3.heap.size→(w3.alloc (.mapIter (some r) clock #[] clock)).heap[j]?=w3.heap[j]?:=fun j hj=>Below.heap_alloc w3 _ j hj
  have hb4:Below w.heap.size w (w3.alloc (.mapIter (some r) clock #[] clock)):=hb3.alloc (by omega) _
  rw [hw3s] at hit ⊢
  generalize w3.alloc (.mapIter (some r) clock #[] clock)=w4 at hit hold4 hb4 ⊢
  have hstamp:=hte.2.1
  refine SC.wp_block (SC.wp_loop (fun a' w'=>∃ seen ks lv,EL TU T32 w (w.heap.size+1) (w.heap.size+2) r clock es (.pointer (some ⟨b,o,none⟩)) (.func (.func CL2) #[] #[.pointer (some ⟨c,0,none⟩)]) seen ks lv a' w') (fun _ w'=>(leftOf es (w'.iterSeen (w.heap.size+2))).size) ?_ ?_)
  · refine ⟨#[],[],.slice (some ⟨w.heap.size,0,none⟩) 0 u.length,?_⟩
    exact ⟨by simp [sPu,hs],by simp [dPu,hd],by simp (disch:=(try simp only [sPu]);omega) [k0],by simp (disch:=(try simp only [sPu]);omega) [k1],by simp (disch:=(try simp only [sPu]);omega),by simp (disch:=(try simp only [sPu]);omega),hb4,by rw [hold4 _ (by omega)];exact hrow3,hit,row_keep hown3 fun k hk=>by
        simp [Value.ownBlock] at hk;subst hk;exact hold4 _ (by omega),
      by simp [Value.ownBlock],by rw [left_none];simp⟩
  rintro a1 w5 ⟨seen,ks,lv,h⟩
  have hr5:w5.heap[r]?=some (.map es clock):=by rw [h.below.block r (by omega)];exact hes
  have hs1:=h.size
  have iseen:∀ {w':World} {s:Array Nat} {m:Option Nat} {x y:Nat},w'.heap[w.heap.size+2]?=some (.mapIter m x s y)→w'.iterSeen (w.heap.size+2)=s:=fun h=>by unfold World.iterSeen;rw [h]
  refine SC.wp_seq (SC.wp_reg (oNo rfl (opw_next (by rw [eTm];exact h.s24) h.itr hr5 hstamp.1 (Nat.le_refl _) ?_ ?_)))
  ·
    intro hz
    iterate 1 (apply ops_1;(focus (simp (disch:=(try simp only [sPu]);omega) ;try rfl)))
    refine oNi ?_
    simp only [Exit.then]
    refine SC.wp_seq (SC.wp_cond (t:=false) (by simp (disch:=(try simp only [sPu]);omega)) ?_)
    rw [if_neg (by simp)]
    refine SC.wp_exit ?_
    simp only [Exit.then,Exit.inBlock,if_true]
    have hperm:(ks.map encK).Perm (u.map fun x=>Value.int .u32 (x.1:Int)):=by
      have h1:=h.perm
      have hz2:(leftOf es seen).toList=[]:=List.length_eq_zero_iff.1 (by simpa using hz)
      rw [hz2] at h1
      exact (by simpa using h1:(ks.map encK).Perm (es.toList.map (·.key))).trans hte.1
    have hkp:ks.Perm (u.map (·.1)):=by
      have:=hperm.map (fun v=>match v with | Value.int _ n=>n.toNat | _=>0)
      simpa [List.map_map,Function.comp_def] using this
    have hkl:ks.length=u.length:=by have:=hkp.length_eq;simpa using this
    obtain ⟨blk,cap,hlv,hblk,hblks⟩:∃ blk cap,lv=.slice (some ⟨blk,0,none⟩) ks.length cap∧w.heap.size≤blk∧blk < w5.heap.size:=by
      rcases h.own.2 with ⟨_,e⟩ | ⟨g,cap,cur,e1,e2,e3,_⟩
      · omega
      · exact ⟨g,cap,e1,e2,(Array.getElem?_eq_some_iff.1 e3).1⟩
    have hq5:=h.qrow
    have ho5:=h.own
    have hoq:=h.ownq
    have hs4:=h.s4
    have hs0:=h.s0
    have hs1':=h.s1
    have hd1:=h.defers
    have hbl:=h.below
    subst hlv
    have hqb:w.heap.size+1 ≠ blk:=fun e=>hoq.1 (by simp [Value.ownBlock,e])
    have hqs:w.heap.size+1 < w5.heap.size:=(Array.getElem?_eq_some_iff.1 hq5).1
    have hqc:w5.cell? ⟨w.heap.size+1,0,none⟩=some (.slice (some ⟨blk,0,none⟩) ks.length cap):=by rw [cell_of_row _ _ _ _ _ _ hq5];rfl
    refine SC.wp_seq (SC.wp_reg ?_)
    iterate 1 (apply ops_1;(focus (simp (disch:=(try simp only [sPu]);omega) [hs4,hTU1,hqc];try rfl)))
    refine oNo rfl (opw_iface (v:=.slice (some ⟨blk,0,none⟩) ks.length cap) hTUu (by simp (disch:=(try simp only [sPu]);omega)) ?_)
    refine oNo rfl (opw_mkFunc (v:=.pointer (some ⟨w.heap.size+1,0,none⟩)) (by simp (disch:=(try simp only [sPu]);omega) [hs4]) ?_)
    refine ops_call cSort.1 (cSort.2 w5 w.heap.size (w.heap.size+1) blk cap ks hqb hqs hq5 ho5 (by omega)) (by simp (disch:=(try simp only [sPu]);omega)) ?_
    rintro e w6 ⟨rfl,z1,z2,z3,hsz6,hfr6,ks',hp6,hso6,hcell6⟩
    refine ⟨_,rfl,oNi ?_⟩
    simp only [Exit.then]
    have hsorted:Sorted u:=by have:=(unknown_facts u).1;rwa [huk] at this
    have hks':ks'=u.map (·.1):=perm_sorted _ _ (hp6.trans hkp) hso6 (List.pairwise_map.2 hsorted)
    have hq6:w6.cell? ⟨w.heap.size+1,0,none⟩=some (.slice (some ⟨blk,0,none⟩) ks.length cap):=by rw [World.cell?_of_block (a:=⟨w.heap.size+1,0,none⟩) (hfr6 _ hqs hqb)];exact hqc
    have hblk6:∀ j,j < w.heap.size→w6.heap[j]?=w.heap[j]?:=fun j hj=>by rw [hfr6 j (by have:=hbl.size;omega) (by omega)];exact hbl.block j hj
    have hbl6:Below w.heap.size w w6:=⟨z1.trans hbl.os,z2.trans hbl.tape,z3.trans hbl.output,Nat.le_trans hbl.size hsz6,hblk6⟩
    refine SC.wp_seq (SC.wp_reg ?_)
    repeat (apply ops_1;(focus (simp (disch:=(try simp only [sPu]);omega) [hs4,hTU1,hq6,hTUs];try rfl)))
    refine oNi ?_
    simp only [Exit.then]
    have hcell6':∀ i x,u[i]?=some x→w6.cell? ⟨blk,i,none⟩=some (encK x.1):=fun i x hx=>hcell6 i x.1 (by rw [hks'];simp [hx])
    rw [hkl] at *
    refine SC.wp_block (SC.wp_loop (fun a' w'=>∃ i dvi,i≤u.length∧EL2 tU8 TB B c u.length xs u w6 dv (.slice (some ⟨blk,0,none⟩) u.length cap) (.pointer (some ⟨b,o,none⟩)) (.func (.func CL2) #[] #[.pointer (some ⟨c,0,none⟩)]) i dvi a' w')
      (fun a' _=>match getT a' 39 with | .int _ m=>(u.length - m).toNat | _=>0) ?_ ?_)
    · refine ⟨0,dv,Nat.zero_le _,?_⟩
      exact ⟨by simp [sPu,hs1],by simp [dPu,hd1],by simp (disch:=(try simp only [sPu]);omega) [hs0],by simp (disch:=(try simp only [sPu]);omega) [hs1'],by simp (disch:=(try simp only [sPu]);omega),by simp (disch:=(try simp only [sPu]);omega),by simp (disch:=(try simp only [sPu]);omega);try rfl,Turns.refl _ _ _,by rw [hblk6 c hcs];exact hc,by
        have:Own tU8 w6 B dv xs:=own_keepB ho fun k hk=>hblk6 k (own_ltB ho hk).2
        simpa using this,hne⟩
    rintro a2 w7 ⟨i,dvi,hi,g⟩
    have gs:=g.size
    refine SC.wp_seq (SC.wp_reg ?_)
    repeat (apply ops_1;(focus (simp (disch:=(try simp only [sPu]);omega) [g.s38,g.s39];try rfl)))
    refine oNi ?_
    simp only [Exit.then]
    refine SC.wp_seq (SC.wp_cond (t:=decide ((i:Int) < (u.length:Int))) (by simp (disch:=(try simp only [sPu]);omega)) ?_)
    cases e1:decide ((i:Int) < (u.length:Int))
    · rw [if_neg (by simp)]
      refine SC.wp_exit ?_
      simp only [Exit.then,Exit.inBlock,if_true]
      have hin:i=u.length:=by simp at e1;omega
      refine bodyPost_end (v:=.tuple #[]) (by simp [results,hr]) (by simp [dPu,g.defers]) ⟨rfl,dvi,g.crow,?_,g.ne,?_⟩
      · have:=g.own
        rwa [hin,List.take_length] at this
      · have t:=g.turns
        refine ⟨t.os.trans hbl6.os,t.tape.trans hbl6.tape,t.output.trans hbl6.output,Nat.le_trans hbl6.size t.size,fun j hj hjc hjd=>?_,?_⟩
        · rw [t.block j (by have:=hbl6.size;omega) hjc hjd]
          exact hblk6 j hj
        · rcases t.own with e | ⟨b',e,hb'⟩
          · exact .inl e
          · exact .inr ⟨b',e,by have:=hbl6.size;omega⟩
    · have hil:i < u.length:=by simp at e1;omega
      rw [if_pos rfl]
      refine SC.wp_skip ?_
      simp only [Exit.then]
      have hui:=List.getElem?_eq_getElem hil
      have t:=g.turns
      have dvB:∀ k,dv.ownBlock=some k→B≤k∧k < w.heap.size:=fun k hk=>own_ltB ho hk
      have keep:∀ j,j < B∨j=blk→w7.heap[j]?=w6.heap[j]?:=fun j hj=>t.block j (by have:=hbl6.size;have:=hbl.size;omega) (by omega) fun e=>by
        have:=dvB j e.symm
        omega
      have hblkc:w7.cell? ⟨blk,i,none⟩=some (encK u[i].1):=by rw [World.cell?_of_block (a:=⟨blk,i,none⟩) (keep blk (.inr rfl))];exact hcell6' i _ hui
      have hv7:w7.cell? ⟨b,o,none⟩=some (.map (some r)):=by
        rw [World.cell?_of_block (a:=⟨b,o,none⟩) ((keep b (.inl hbB)).trans (hblk6 b (by omega)))];exact hv
      have hes7:w7.heap[r]?=some (.map es clock):=by rw [keep r (.inl hrB),hblk6 r (by omega)];exact hes
      have hte7:TagsEs w7 (· < B) es clock u:=⟨hte.1,hte.2.1,fun e he x hx hk=>by
        obtain ⟨base,cap',q1,q2⟩:=hte.2.2 e he x hx hk
        exact ⟨base,cap',q1,bytesAt_mono q2 (fun _ h=>h) fun k hk=>(keep k (.inl hk)).trans (hblk6 k (by omega))⟩⟩
      have ei:(0:Int)≤(i:Int)∧(i:Int) < (u.length:Int):=by omega
      have hux':=hux u[i] (List.getElem_mem hil)
      have htk:=take_flat u wTag i hil
      refine SC.wp_seq (SC.wp_block (SC.wp_seq (SC.wp_reg ?_)))
      repeat (apply ops_1;(focus (simp (disch:=(try simp only [sPu]);omega) [g.s37,g.s39,hTUs,hT32,ei,hil,hblkc];try rfl)))
      refine oNi ?_
      simp only [Exit.then]
      refine SC.wp_reg ?_
      iterate 7 (apply ops_1;(focus (simp (disch:=(try simp only [sPu]);omega) [g.s0,g.s1,hF0,hTM1,hv7];try rfl)))
      refine oNo rfl (opw_lookup (k:=u[i].1) hTM (by simp (disch:=(try simp only [sPu]);omega)) (by simp (disch:=(try simp only [sPu]);omega)) hes7 hte7 (List.getElem_mem hil) rfl fun base cap' hbs=>?_)
      obtain ⟨fnC,oc1,oc2,oc3⟩:=oCl
      refine oNo rfl (opw_callv (f:=CL2) (lb:=#[.pointer (some ⟨c,0,none⟩)]) (argsV:=#[.int .u32 (u[i].1:Int),.slice base u[i].2.length cap',.pointer (some ⟨c,0,none⟩)]) (by simp (disch:=(try simp only [sPu]);omega) [g.s1]) oc1 oc2 oc3 (by simp (disch:=(try simp only [sPu]);omega)) (cCl w7 B c u[i].1 cap' dvi _ u[i].2 base g.own g.ne g.crow hBc hux'.1 hbs hux'.2 (by rw [List.length_append];show _+(wTag u[i]).length≤lim;omega)) ?_)
      rintro e w8 ⟨rfl,dv8,hc8,ho8,hne8,t8⟩
      refine ⟨_,rfl,oNi ?_⟩
      simp only [Exit.then,Exit.inBlock]
      have hw:IntKind.i64.wrap ((i:Int)+1)=((i+1:Nat):Int):=by
        have hu:=hum
        rw [w64E (by omega) (by omega)]
        rfl
      refine SC.wp_reg ?_
      repeat (apply ops_1;(focus (simp (disch:=(try simp only [sPu]);omega) [g.s39,hw];try rfl)))
      refine oNi ?_
      simp only [Exit.then]
      refine ⟨⟨i+1,dv8,by omega,⟨by simp [sPu,gs],by simp [dPu,g.defers],by simp (disch:=(try simp only [sPu]);omega) [g.s0],by simp (disch:=(try simp only [sPu]);omega) [g.s1],by simp (disch:=(try simp only [sPu]);omega) [g.s37],by simp (disch:=(try simp only [sPu]);omega) [g.s38],by simp (disch:=(try simp only [sPu]);omega),t.trans t8,hc8,?_,hne8⟩⟩,?_⟩
      · rw [htk.1,← List.append_assoc]
        exact ho8
      · simp (disch:=(try simp only [sPu]);omega) [gTp,gTn,g.s39]
        omega
  ·
    intro e he w6 hw6
    have hem:=mem_left he
    have hkey:∃ x ∈ u,e.key=encK x.1:=by
      have:e.key ∈ u.map fun x=>Value.int .u32 (x.1:Int):=hte.1.mem_iff.1 (List.mem_map_of_mem hem.1)
      obtain ⟨x,hx,hxe⟩:=List.mem_map.1 this
      exact ⟨x,hx,hxe.symm⟩
    obtain ⟨x,hxu,hxk⟩:=hkey
    have hlenk:ks.length+1≤u.length:=by
      have h1:=h.perm.length_eq
      have h2:=(left_perm hstamp.2.1 he).length_eq
      simp only [List.length_append,List.length_map,List.length_cons,Array.length_toList] at h1 h2
      omega
    have hh6:w6.heap=w5.heap:=by rcases hw6 with rfl | rfl <;> rfl
    have hm6:w6.os=w5.os∧w6.tape=w5.tape∧w6.output=w5.output:=by rcases hw6 with rfl | rfl <;> exact ⟨rfl,rfl,rfl⟩
    have hits:w.heap.size+2 < w5.heap.size:=(Array.getElem?_eq_some_iff.1 h.itr).1
    have hqs:w.heap.size+1 < w5.heap.size:=(Array.getElem?_eq_some_iff.1 h.qrow).1
    obtain ⟨w7,hw7⟩:∃ w7,w7=ChangeMaps.setBlock w6 (w.heap.size+2) (.mapIter (some r) clock (seen.push e.born) clock):=⟨_,rfl⟩
    have h7it:w7.heap[w.heap.size+2]?=some (.mapIter (some r) clock (seen.push e.born) clock):=by rw [hw7];simp [ChangeMaps.setBlock,hh6,hits]
    have h7o:∀ j,j ≠ w.heap.size+2→w7.heap[j]?=w5.heap[j]?:=fun j hj=>by rw [hw7];simp [ChangeMaps.setBlock,hh6,Array.getElem?_setIfInBounds_ne (Ne.symm hj)]
    have h7s:w7.heap.size=w5.heap.size:=by rw [hw7];simp [ChangeMaps.setBlock,hh6]
    have h7m:w7.os=w5.os∧w7.tape=w5.tape∧w7.output=w5.output:=by rw [hw7];exact hm6
    have h7b:Below w.heap.size w w7:=⟨h7m.1.trans h.below.os,h7m.2.1.trans h.below.tape,h7m.2.2.trans h.below.output,by have:=h.below.size;omega,fun j hj=>(h7o j (by omega)).trans (h.below.block j hj)⟩
    rw [← hw7]
    clear hw7 hw6 hm6 hh6
    have hr7:w7.heap[r]?=some (.map es clock):=by rw [h7b.block r (by omega)];exact hes
    have hown7:w7.ownsRow w.heap.size T32 1 lv ks.length (ks.map encK):=row_keep h.own fun k hk=>h7o k fun e2=>h.ownq.2 (by rw [hk,e2])
    have hq7:w7.heap[w.heap.size+1]?=some (.cells #[lv] TU (0,0)):=by rw [h7o _ (by omega)];exact h.qrow
    have hqc7:w7.cell? ⟨w.heap.size+1,0,none⟩=some lv:=by rw [cell_of_row _ _ _ _ _ _ hq7];rfl
    iterate 1 (apply ops_1;(focus (simp (disch:=(try simp only [sPu]);omega) ;try rfl)))
    refine oNi ?_
    simp only [Exit.then]
    refine SC.wp_seq (SC.wp_cond (t:=true) (by simp (disch:=(try simp only [sPu]);omega)) ?_)
    rw [if_pos rfl]
    refine SC.wp_skip ?_
    simp only [Exit.then]
    refine SC.wp_block (SC.wp_seq (SC.wp_reg (oNo rfl (opw_entry (by simp (disch:=(try simp only [sPu]);omega) [h.s24]) h7it hr7 hem.1 hstamp.2.1 ?_))))
    rw [hxk]
    repeat (apply ops_1;(focus (simp (disch:=(try simp only [sPu]);omega) ;try rfl)))
    refine oNi ?_
    simp only [Exit.then]
    refine SC.wp_reg ?_
    iterate 2 (apply ops_1;(focus (simp (disch:=(try simp only [sPu]);omega) [h.s4,hTU1,hqc7];try rfl)))
    refine oNo rfl (opw_build1 hTUu hI hZ hS (v:=encK x.1) (by simp (disch:=(try simp only [sPu]);omega)) rfl ?_)
    have h8n:=heap_alloc_new w7 (.cells #[encK x.1] T32)
    have h8o:∀ j,j < w7.heap.size→(w7.alloc (.cells #[encK x.1] T32)).heap[j]?=w7.heap[j]?:=fun j hj=>Below.heap_alloc w7 _ j hj
    have h8s:(w7.alloc (.cells #[encK x.1] T32)).heap.size=w7.heap.size+1:=by simp
    have h8b:Below w.heap.size w (w7.alloc (.cells #[encK x.1] T32)):=h7b.alloc h7b.size _
    generalize w7.alloc (.cells #[encK x.1] T32)=w8 at h8n h8o h8s h8b ⊢
    have hown8:w8.ownsRow w.heap.size T32 1 lv ks.length (ks.map encK):=row_keep hown7 fun k hk=>h8o k (hown7.lt k hk).2
    refine oNo rfl (opw_append32 (k:=x.1) (b:=w7.heap.size) hTUu hI hZ (by rw [hZc];rfl) hS hBy rfl (by simp (disch:=(try simp only [sPu]);omega)) (by simp (disch:=(try simp only [sPu]);omega)) hown8 h8b.size (by omega) (by rw [cell_of_row _ _ _ _ _ _ h8n];rfl) ?_)
    intro lv9 w9 ho9 hg9 hob9
    have hq9:w9.heap[w.heap.size+1]?=some (.cells #[lv] TU (0,0)):=by rw [hg9.block _ (by omega) fun e=>h.ownq.1 e.symm,h8o _ (by omega)];exact hq7
    have hob9':∀ j,j < w7.heap.size→lv.ownBlock ≠ some j→lv9.ownBlock ≠ some j:=fun j hj hl=>by
      rcases hob9 with e | ⟨b',e,hb'⟩
      · rw [e];exact hl
      · rw [e];intro e2;cases e2;omega
    have hone9:lv9.oneCell'=true:=by rcases ho9.2 with ⟨rfl,_⟩ | ⟨_,_,_,rfl,_⟩ <;> rfl
    refine ops_stR (b:=w.heap.size+1) (i:=0) (cs:=#[lv]) (v:=lv9) hTU1 (by simp (disch:=(try simp only [sPu]);omega) [h.s4]) (by simp (disch:=(try simp only [sPu]);omega)) hone9 hq9 (by simp) ?_
    refine oNi ?_
    simp only [Exit.then,Exit.inBlock]
    have hb9:Below w.heap.size w w9:=h8b.grown hg9 h8b.size (fun k hk=>(hown8.lt k hk).1)
    have hlt9:w8.heap.size≤w9.heap.size:=hg9.size
    have hit9:(w9.setRow (w.heap.size+1) (#[lv].setIfInBounds 0 lv9)).heap[w.heap.size+2]?=some (.mapIter (some r) clock (seen.push e.born) clock):=by
      rw [setRow_other _ _ _ _ (by omega),hg9.block _ (by omega) fun e=>h.ownq.2 e.symm,h8o _ (by omega)];exact h7it
    refine ⟨⟨seen.push e.born,ks ++ [x.1],lv9,⟨by simp [sPu,hs1],by simp [dPu,h.defers],by simp (disch:=(try simp only [sPu]);omega) [h.s0],by simp (disch:=(try simp only [sPu]);omega) [h.s1],by simp (disch:=(try simp only [sPu]);omega) [h.s4],by simp (disch:=(try simp only [sPu]);omega) [h.s24],below_setRow hb9 (by omega) _,setRow_heap _ _ _ _ _ _ hq9,hit9,?_,⟨hob9' _ (by omega) h.ownq.1,hob9' _ (by omega) h.ownq.2⟩,?_⟩⟩,?_⟩
    · refine row_keep ho9 fun k hk=>setRow_other _ _ _ _ fun e2=>?_
      subst e2
      exact hob9' _ (by omega) h.ownq.1 hk
    · have h1:=h.perm
      have h2:=((left_perm hstamp.2.1 he).map (·.key)).append_right (ks.map encK)
      refine List.Perm.trans ?_ (h2.symm.trans h1)
      simp only [List.map_cons,List.map_append,List.map_nil,List.cons_append,hxk]
      rw [← List.append_assoc]
      exact List.perm_append_singleton _ _
    · rw [iseen hit9,iseen h.itr]
      exact left_shrinks es seen e he
end
end Go.Proofs.YtmapoohbongifaaGreatDoor.K
namespace Go.Proofs.YtmapoohbongifaaGreatDoor.K
open Go Go.RowKit Go.Proofs.YtmapoohbongifaaGreatDoor.T
attribute [local simp] eTm eCo pNo gTp gTn qv qcall vop iop
set_option linter.unusedVariables false
set_option linter.unusedSimpArgs false
set_option maxHeartbeats 4000000
def sc_TAppendEach (TB fEach:Nat) (g:Fn):SC:=.seq (.reg [⟨some 3,.box TB (.tmp 1),none⟩,⟨some 4,.assign (.const (.slice none 0 0)),none⟩]) (.seq (.reg [mv 5 0,⟨some 6,.makeFunc g #[] #[.tmp 3],none⟩,cal 7 fEach [5,6]]) (.seq (.reg [ld 8 TB 3,asg 4 8]) .ret))
section
variable {P:Program} {f:FuncId} {fn:Func}
theorem appendEachN_ok {G:List (Nat × Bytes)→Prop} {TB fEach tU8 CL2:Nat} (hTB:oneB P TB=true) (oE:FnOK P fEach) (cE:EachC P tU8 TB CL2 G fEach)
    (hf:P.funcs[f]?=some fn) (hb:fn.body.map strip=some (sc_TAppendEach TB fEach (.func CL2))) (hn:fn.ntmps=9) (hr:fn.results=#[.tmp 4])
    (w:World) (B b o:Nat) (u:List (Nat × Bytes)) (dv:Value) (xs:Bytes) (hu:HTags G w (· < B) b o u) (hbB:b < B) (ho:Own tU8 w B dv xs) (hB:B≤w.heap.size) (hl:xs.length+(u.flatMap wTag).length≤lim) :
    Calls P f #[.pointer (some ⟨b,o,none⟩),dv] w fun e w'=>∃ dv',e=.returned dv'∧Own tU8 w' B dv' (xs ++ u.flatMap wTag)∧Below B w w'∧B≤w'.heap.size:=by
  have h1:dv.oneCell'=true:=own_one ho
  refine fCa hf hb hn (by simp) fun a0 hs hd ha=>?_
  have h0:=ha 0 _ rfl
  have hd1:=ha 1 _ rfl
  simp only [List.getElem_toArray,List.getElem_cons_zero,List.getElem_cons_succ] at h0 hd1
  refine SC.wp_seq (SC.wp_reg (oNo rfl (opw_box (v:=dv) (by rw [eTm,hd1]) ?_)))
  rw [cells_oneCell h1]
  have hnew:=heap_alloc_new w (.cells #[dv] TB)
  have hold:∀ j,j < w.heap.size→(w.alloc (.cells #[dv] TB)).heap[j]?=w.heap[j]?:=fun j hj=>Below.heap_alloc w _ j hj
  have hbn:Below B w (w.alloc (.cells #[dv] TB)):=(Below.refl _ _).alloc hB _
  have hon:Own tU8 (w.alloc (.cells #[dv] TB)) B dv xs:=ho.alloc _
  have hsn:(w.alloc (.cells #[dv] TB)).heap.size=w.heap.size+1:=by simp
  have hun:HTags G (w.alloc (.cells #[dv] TB)) (· < B) b o u:=by
    obtain ⟨q1,q2,q3,q4,q5⟩:=hu
    refine ⟨q1,q2,q3,q4,q5.imp ?_ ?_⟩
    · rintro ⟨z1,z2⟩
      exact ⟨by rw [hbn.cell (p:=⟨b,o,none⟩) hbB];exact z1,z2⟩
    · rintro ⟨r,es,clock,z1,z2,z3,z4⟩
      exact ⟨r,es,clock,by rw [hbn.cell (p:=⟨b,o,none⟩) hbB];exact z1,z2,by rw [hbn.block r z2];exact z3,z4.1,z4.2.1,fun e he x hx hk=>by
        obtain ⟨base,cap,y1,y2⟩:=z4.2.2 e he x hx hk
        exact ⟨base,cap,y1,bytesAt_mono y2 (fun _ h=>h) fun k hk=>hbn.block k hk⟩⟩
  have hne:dv.ownBlock ≠ some w.heap.size:=fun e=>by have:=(own_ltB ho e).2;omega
  generalize w.alloc (.cells #[dv] TB)=w1 at *
  repeat (apply ops_1;(focus (simp (disch:=(try simp only [sPu]);omega) ;try rfl)))
  refine oNi (SC.wp_seq (SC.wp_reg ?_))
  iterate 1 (apply ops_1;(focus (simp (disch:=(try simp only [sPu]);omega) [h0];try rfl)))
  refine oNo rfl (opw_mkFunc (v:=.pointer (some ⟨w.heap.size,0,none⟩)) (by simp (disch:=(try simp only [sPu]);omega)) ?_)
  refine ops_call oE (cE w1 B b o w.heap.size u dv xs hun hbB hon hne hnew hB hl) (by simp (disch:=(try simp only [sPu]);omega) [h0]) ?_
  rintro e w2 ⟨rfl,dv2,hc2,ho2,hne2,t2⟩
  refine ⟨_,rfl,oNi ?_⟩
  simp only [Exit.then]
  have hcc:w2.cell? ⟨w.heap.size,0,none⟩=some dv2:=by rw [cell_of_row _ _ _ _ _ _ hc2];rfl
  have hb2:Below B w w2:=⟨t2.os.trans hbn.os,t2.tape.trans hbn.tape,t2.output.trans hbn.output,by have:=t2.size;omega,fun k hk=>by
    rw [t2.block k (by omega) (by omega) fun e=>by have:=(own_ltB ho e.symm).1;omega]
    exact hbn.block k hk⟩
  refine SC.wp_seq (SC.wp_reg ?_)
  repeat (apply ops_1;(focus (simp (disch:=(try simp only [sPu]);omega) [hTB,hcc];try rfl)))
  refine oNi (SC.wp_ret (ret_tmp hr (by simp [dPu,hd]) ⟨dv2,?_,ho2,hb2,by have:=t2.size;omega⟩))
  simp (disch:=(try simp only [sPu]);omega)
theorem swoLt:Sort.SWO (fun x y:Nat=>decide (x < y)):=⟨fun x=>by simp,fun x y z h1 h2=>by simp at *;omega,fun x y z h1 h2=>by simp at *;omega⟩
theorem isAgg_no {T:TypeId} (h:oneB P T=true):∀ w:World,(isAgg T).run P w=.ok false w:=fun w=>run_isAgg_one h
open Go.Sort Go.Shelf Go.Lib in
theorem sortC {ρ:Ren} (L:LaysGg.n6 P ρ) {CL TU T32:Nat} {fnL:Func} (hm:P.follows .mixedOrders=true) (h0:oneB P TU=true) (hs0:sliceN P TU=some 1) (h1:oneB P T32=true) {i ie:TypeInfo} (hi:P.info? TU=some i) (hid:i.desc=.slice T32) (hpk:P.packed TU=false) (hie:P.info? T32=some ie) (ke:Nat) (hke:∀ w,(Extern.Rtype.kind T32).run P w=.ok ke w) (hsz:ie.size=1)
    (hfL:P.funcs[CL]?=some fnL) (hbL:fnL.body.map strip=some (sc_Each1 TU T32)) (hnL:fnL.ntmps=15) (hrL:fnL.results=#[.tmp 5]) (oFS:FnOK P (ρ.f 6)) (oCL:FnOK P CL)
    (fS : Nat → Nat) (hfS : ∀ n, P.funcs.findIdx? (·.name == "internal/reflectlite" ++ ".Swapper$" ++ toString (swapperK n ie ke)) = some (fS n))
    (gS:Bool) (hx:∀ (n:Nat) args W,2≤n→(callFunc (fS n) args).run P W=((Extern.ReflectliteSwapper.swap gS args).run P W).andThen fun v w'=>.ok (.value v) w'):SortC P (ρ.f 6) CL TU T32:=by
  refine ⟨oFS,fun w B q blk cap ks hqb hqs hq ho hlen=>?_⟩
  have hblks:blk < w.heap.size:=(ho.lt blk rfl).2
  have eg:∀ args w,(callFunc CL args).run P w=.ok (.enter CL args) w:=fun args w=>by
    obtain ⟨fn,q1,q2,q3⟩:=oCL
    exact run_callFunc q1 q2 q3
  have hcells:∀ j k,ks[j]?=some k→w.cell? ⟨blk,j,none⟩=some (encK k):=fun j k hj=>by
    have hlt:j < ks.length:=(List.getElem?_eq_some_iff.1 hj).1
    rw [ho.cellAt j (by omega)]
    simp [hj]
  have hH:Holds encK w blk 0 ks.toArray:=fun j hj=>by
    have hj':j < ks.length:=by simpa using hj
    refine ⟨?_,?_⟩
    · rw [Nat.zero_add,hcells j ks[j] (List.getElem?_eq_getElem hj')]
      congr 2
      rw [getElem!_pos ks.toArray j hj]
      simp
    · exact ho.frozenAt _
  have hqc:w.cell? ⟨q,0,none⟩=some (.slice (some ⟨blk,0,none⟩) ks.length cap):=by rw [cell_of_row _ _ _ _ _ _ hq];rfl
  have fin:∀ (n:Nat) (d':Array Nat) (os:Array Obj),d'.size=ks.length→∀ w',w'=grow (putRow encK (Sort.ahead w n) blk 0 d') os→w'.os=w.os∧w'.tape=w.tape∧w'.output=w.output∧w.heap.size≤w'.heap.size∧(∀ j,j < w.heap.size→j ≠ blk→w'.heap[j]?=w.heap[j]?)∧∀ i k,d'.toList[i]?=some k→w'.cell? ⟨blk,i,none⟩=some (encK k):=by
    intro n d' os hd' w' hw'
    subst hw'
    have hsz1:(putRow encK (Sort.ahead w n) blk 0 d').heap.size=w.heap.size:=by simp [Sort.ahead]
    refine ⟨rfl,rfl,rfl,by rw [size_grow];omega,fun j hj hne=>?_,fun i k hk=>?_⟩
    · rw [heap_grow_old _ _ (by omega)]
      simp [putRow,mapBlock,Sort.ahead,Array.getElem?_modify,Ne.symm hne]
    · have hil:i < d'.size:=by have:=(List.getElem?_eq_some_iff.1 hk).1;simpa using this
      rw [cell?_grow _ _ _ (by show blk < _;omega)]
      have:=cell?_putRow encK (Sort.ahead w n) blk 0 ks.toArray d' (holds_ahead _ _ _ _ _ _ hH) (by simpa using hd') i hil
      rw [Nat.zero_add] at this
      rw [this,getElem!_pos d' i hil]
      have h2:=(List.getElem?_eq_some_iff.1 hk).2
      simp at h2
      rw [h2]
  by_cases h2:2≤ks.length
  · have hless:LessReads P CL #[.pointer (some ⟨q,0,none⟩)] encK (fun x y=>decide (x < y)) blk 0 ks.toArray.size w:=by
      intro m os dk hdk i j hi hj
      simp only [List.size_toArray] at hdk hi hj
      have hW:∀ a:Addr,a.block < w.heap.size→(sortWorld encK w blk 0 m dk os).cell? a=(putRow encK (Sort.ahead w m) blk 0 dk).cell? a:=fun a ha=>cell?_grow _ _ _ (by rw [size_putRow];exact ha)
      have hc:∀ t,t < ks.length→(sortWorld encK w blk 0 m dk os).cell? ⟨blk,t,none⟩=some (encK dk[t]!):=fun t ht=>by
        rw [hW ⟨blk,t,none⟩ hblks]
        have:=cell?_putRow encK (Sort.ahead w m) blk 0 ks.toArray dk (holds_ahead _ _ _ _ _ _ hH) (by simpa using hdk) t (by omega)
        rwa [Nat.zero_add] at this
      have hq2:(sortWorld encK w blk 0 m dk os).cell? ⟨q,0,none⟩=some (.slice (some ⟨blk,0,none⟩) ks.length cap):=by
        rw [hW ⟨q,0,none⟩ hqs,cell?_putRow_other _ _ _ _ _ _ (.inl hqb)]
        exact hqc
      have hws:w.heap.size≤(sortWorld encK w blk 0 m dk os).heap.size:=by
        unfold sortWorld
        rw [size_grow,size_putRow]
        simp [Sort.ahead]
      exact (less_ok hm h0 hs0 h1 hfL hbL hnL hrL _ q blk ks.length cap i j dk[i]! dk[j]! hq2 (by omega) (by omega) hi hj (hc i hi) (hc j hj)).mono fun e w' ⟨q1,q2⟩=>⟨q1,1,q2⟩
    have:=Any.sort_Slice_sorted L TU T32 i ie hi hid hpk hie ke hke hsz (isAgg_no h1) encK (fun _=>rfl) (fun x y:Nat=>decide (x < y)) swoLt CL #[.pointer (some ⟨q,0,none⟩)] eg blk 0 cap ks.toArray (by simpa using h2) (by simp;omega) (fS ks.toArray.size) (by simpa using hfS ks.toArray.size) gS (hx _ · · (by simpa using h2)) w hless hH hblks
    simp only [List.size_toArray] at this
    refine this.mono ?_
    rintro e w' ⟨rfl,d',n,os,hp,hso,hw'⟩
    have hds:d'.size=ks.length:=by simpa using hp.1
    obtain ⟨z1,z2,z3,z4,z5,z6⟩:=fin n d' os hds w' hw'
    refine ⟨rfl,z1,z2,z3,z4,z5,d'.toList,?_,?_,z6⟩
    · have:=hp.2.2
      rw [← hds] at this
      rw [show (d'.extract 0 d'.size)=d' by simp] at this
      have h3:(ks.toArray.extract 0 d'.size)=ks.toArray:=by rw [hds];simp
      rw [h3] at this
      simpa using this
    · rw [List.pairwise_iff_getElem]
      intro i j hi hj hij
      have hj':j < d'.size:=by simpa using hj
      have:=hso i j (Nat.zero_le _) hij (by omega)
      rw [getElem!_pos d' i (by omega),getElem!_pos d' j hj'] at this
      simp at this ⊢
      omega
  · have:=Any.sort_Slice_tiny L TU T32 i ie hi hid hpk hie ke hke (some ⟨blk,0,none⟩) ks.length cap (by omega) (fS ks.length) (hfS ks.length) (.func CL) #[] #[.pointer (some ⟨q,0,none⟩)] w
    refine this.mono ?_
    rintro e w' ⟨rfl,os,rfl⟩
    refine ⟨rfl,rfl,rfl,rfl,by rw [size_grow];omega,fun j hj _=>heap_grow_old _ _ hj,ks,List.Perm.refl _,?_,fun i k hk=>?_⟩
    · match ks,h2 with
      | [],_=>exact List.Pairwise.nil
      | [x],_=>exact List.pairwise_singleton _ _
      | x :: y :: r,h2=>exact absurd (by simp) h2
    · rw [cell?_grow _ _ _ (by show blk < _;omega)]
      exact hcells i k hk
end
end Go.Proofs.YtmapoohbongifaaGreatDoor.K
namespace Go.Proofs.YtmapoohbongifaaGreatDoor.K
open Go Go.RowKit Go.Proofs.YtmapoohbongifaaGreatDoor.T
attribute [local simp] eTm eCo pNo gTp gTn qv qcall vop iop
set_option linter.unusedVariables false
set_option linter.unusedSimpArgs false
set_option maxHeartbeats 2000000
def sc_RUuid (T0 T1 F0:Nat):SC:=.seq (.reg [⟨some 2,.alloc T0,none⟩]) (.seq (.reg [⟨some 3,.alloc T0,none⟩]) (.seq (.dreg [⟨some 4,.slice T0 (.tmp 3) none none none,none⟩,mv 5 0,⟨some 6,.call ⟨.value (.func F0),#[(.tmp 5),(.const (.int .i64 16))],#[]⟩,none⟩,⟨some 7,.call ⟨.builtin .copy,#[(.tmp 4),(.tmp 6)],#[T1,T1]⟩,none⟩] [[],[],[1],[0,2,2]]) (.seq (.reg [ld 8 T0 3,⟨none,.store T0 (.tmp 2) (.tmp 8),none⟩]) (.ret))))
section
variable {P:Program} {R:RTy} {f:FuncId} {fn:Func}
theorem dreg_op {S:World→Prop} {ops:List SOp} {i:Nat} {s:SOp} {r:List (Nat × Bool)} {K:Act→World→Prop} {a:Act} {w:World} (hs:ops[i]?=some s) (hg:s.guard=none) (h:opw P s a w (fun a' w'=>S w'∧dregw P S ops r K a' w')):dregw P S ops ((i,false) :: r) K a w:=by
  unfold dregw
  refine ⟨s,hs,?_⟩
  rw [hg]
  simpa using h
theorem opw_copy {a:Act} {w:World} {K:Act→World→Prop} {d:Option Tmp} {g:Option (Nat × Bool)} {T tU8 b n m cap:Nat} {E:TypeId} {x y:Operand} {cur:Array Value} {S:Option Nat} {base:Option Addr} {bs:Bytes} (hT:u8sB P T tU8=true) (hx:a.eval x=.slice (some ⟨b,0,none⟩) n m) (hy:a.eval y=.slice base bs.length cap) (hs:SrcAt w S base bs) (hb:w.heap[b]?=some (.cells cur E (0,0))) (hn:n≤cur.size)
    (h:K (a.put d (.int .i64 ((min bs.length n:Nat):Int))) (w.setRow b (cellsOf (bs.take (min bs.length n)) ++ cur.toList.drop (min bs.length n)).toArray)):opw P ⟨d,.call ⟨.builtin .copy,#[x,y],#[T,T]⟩,g⟩ a w K:=by
  obtain ⟨hu,i,hi,hz,hs1,_⟩:=u8s_of hT
  have hsz:(P.info? tU8).map (·.size)=some 1:=by rw [hi];simp [hs1]
  refine opw_of fun o next Q hd hop hnn=>?_
  have hop':o.op=.call ⟨.builtin .copy,#[x,y],#[T,T]⟩:=stripOp_eq (by simp) hop
  have hr:(Builtin.copy_ #[T,T] o.type #[.slice (some ⟨b,0,none⟩) n m,.slice base bs.length cap]).run P w=.ok (goInt ((min bs.length n:Nat):Int)) (w.setRow b (cellsOf (bs.take (min bs.length n)) ++ cur.toList.drop (min bs.length n)).toArray):=by
    cases S with
    | none =>
      obtain ⟨rfl,rfl⟩:=hs
      rw [run_copy_none w T T o.type tU8 _ _ _ _ _ _ hu hsz (by simp),show min ([]:Bytes).length n=0 by simp]
      simp [cellsOf,setRow_self w b cur E (0,0) hb]
    | some sb =>
      obtain ⟨q,rfl,hc⟩:=hs
      have hl:(cellsOf (bs.take (min bs.length n))).length=min bs.length n:=by rw [cLen,List.length_take];omega
      have:=run_copy_row (P:=P) w T T o.type tU8 b 0 n m ⟨sb,q,none⟩ bs.length cap cur E (cellsOf (bs.take (min bs.length n))) hu hsz hb hl (fun j v hj=>by
        rw [add_none]
        simp only [cellsOf,List.getElem?_map,Option.map_eq_some_iff] at hj
        obtain ⟨u',hu',rfl⟩:=hj
        refine hc j u' ?_
        rw [List.getElem?_take] at hu'
        split at hu'
        · exact hu'
        · cases hu') (by rw [hl];omega) (by intro v hv;simp only [cellsOf,List.mem_map] at hv;obtain ⟨u',_,rfl⟩:=hv;rfl)
      rw [this]
      simp only [List.take_zero,List.nil_append,Nat.zero_add,hl]
  have hr':(execOp a.eval o).run P w=.ok (.value (goInt ((min bs.length n:Nat):Int))) (w.setRow b (cellsOf (bs.take (min bs.length n)) ++ cur.toList.drop (min bs.length n)).toArray):=by
    simp [execOp,hop',resolve,invoke,builtin,hx,hy,hr]
  rw [hr',Oper.upon_value,hd]
  exact hnn _ _ h
theorem rUuidFn_ok {TR gb T0 T1 tU8 F0:Nat} (hm:P.follows .mixedOrders=true) (hA:arrN P T0=some 16) (hag:aggB P T0 16=true) (hz:∃ i z,P.info? T0=some i∧i.zero=some z∧z.cells=(cellsOf (List.replicate 16 0)).toArray) (hT1:u8sB P T1 tU8=true) (hSp:SpC P TR F0)
    (hf : P.funcs[f]? = some fn) (hb : fn.body.map strip = some (sc_RUuid T0 T1 F0)) (hnm : (fn.name == "runtime.NumGoroutine") = false) (hn : fn.ntmps = 9) (hr : fn.results = #[.cell 2 T0]) :
    RC P TR gb f (pPrim false false .uuid) (tyP false .uuid) (okP false .uuid):=by
  refine ⟨fnOK_of hf hb hnm,fun w S rb st hgb hrd hsrc=>?_⟩
  obtain ⟨iz,z,hiz,hzz,hzc⟩:=hz
  have hrbl:rb < w.heap.size:=RdAt.lt hrd
  refine fCa hf hb hn (by simp) fun a0 hs hd ha=>?_
  have h0:=ha 0 _ rfl
  simp only [List.getElem_toArray,List.getElem_cons_zero,List.getElem_cons_succ] at h0
  refine SC.wp_seq (SC.wp_reg (oNo rfl (opw_alloc hiz hzz (oNi ?_))))
  simp only [Exit.then]
  refine SC.wp_seq (SC.wp_reg (oNo rfl (opw_alloc hiz hzz (oNi ?_))))
  simp only [Exit.then]
  rw [hzc]
  have hn1:=heap_alloc_new w (.cells (cellsOf (List.replicate 16 0)).toArray T0)
  have hn2:=heap_alloc_new (w.alloc (.cells (cellsOf (List.replicate 16 0)).toArray T0)) (.cells (cellsOf (List.replicate 16 0)).toArray T0)
  have hsz1:(w.alloc (.cells (cellsOf (List.replicate 16 0)).toArray T0)).heap.size=w.heap.size+1:=by simp
  rw [hsz1] at hn2 ⊢
  obtain ⟨w2,hw2⟩:∃ w2,w2=(w.alloc (.cells (cellsOf (List.replicate 16 0)).toArray T0)).alloc (.cells (cellsOf (List.replicate 16 0)).toArray T0):=⟨_,rfl⟩
  rw [← hw2] at hn2 ⊢
  have hsz2:w2.heap.size=w.heap.size+2:=by rw [hw2];simp
  have hold:∀ k,k < w.heap.size→w2.heap[k]?=w.heap[k]?:=fun k hk=>by
    rw [hw2,Below.heap_alloc _ _ _ (by simp;omega),Below.heap_alloc _ _ _ hk]
  have hr2:w2.heap[w.heap.size]?=some (.cells (cellsOf (List.replicate 16 0)).toArray T0 (0,0)):=by
    rw [hw2,Below.heap_alloc _ _ _ (by simp)]
    exact hn1
  have hon2:Only rb w w2.drew:=by rw [hw2];exact (((Only.refl rb w).alloc _).alloc _).drew
  have hrd2:RdAt TR w2.drew S rb st:=RdAt.frame hrd (hold _ hrbl) fun sb h=>hold _ (hsrc sb h).2
  refine SC.wp_seq (SC.wp_dreg hm (Below 0 w2.drew) [(1,true),(0,true),(2,false),(3,false)] (by rfl) (by rfl) (by decide) (Below.refl _ _) ?_)
  iterate 2 (apply dr_1;(focus rfl);(focus (simp (disch:=(try simp only [sPu]);omega) [h0,hA];try rfl)))
  refine dreg_call (argsV:=#[.pointer (some ⟨rb,0,none⟩),.int .i64 16]) rfl hSp.1 (hSp.2 w2.drew S rb st 16 hrd2 (fun sb h=>⟨(hsrc sb h).1,by have:=(hsrc sb h).2;show sb < w2.heap.size;omega⟩)) (by simp (disch:=(try simp only [sPu]);omega) [h0]) ?_
  rintro e w3 ⟨S',base,cap,x,rfl,m1,m2,m3,m4,m5⟩
  refine ⟨_,rfl,⟨m2.os,m2.tape,m2.output,m2.size,fun k hk=>by omega⟩,?_⟩
  have hs3:=m2.size
  have hsd:w2.drew.heap.size=w2.heap.size:=rfl
  have hr3:w3.heap[w.heap.size]?=some (.cells (cellsOf (List.replicate 16 0)).toArray T0 (0,0)):=(m2.block _ (by omega) (by omega)).trans hr2
  have hb3:w3.heap[w.heap.size+1]?=some (.cells (cellsOf (List.replicate 16 0)).toArray T0 (0,0)):=(m2.block _ (by omega) (by omega)).trans hn2
  refine dreg_op rfl rfl (opw_copy (b:=w.heap.size+1) (n:=16) (m:=16) (bs:=x) (base:=base) (cap:=cap) (cur:=(cellsOf (List.replicate 16 0)).toArray) hT1 (by simp (disch:=(try simp only [sPu]);omega)) (by simp (disch:=(try simp only [sPu]);omega)) m3 hb3 (by simp [cellsOf]) ?_)
  obtain ⟨bs,hbs⟩:∃ bs:Bytes,bs=x.take (min x.length 16) ++ (List.replicate 16 0).drop (min x.length 16):=⟨_,rfl⟩
  have hbl:bs.length=16:=by rw [hbs];simp;omega
  have hcb:(cellsOf (x.take (min x.length 16)) ++ ((cellsOf (List.replicate 16 0)).toArray).toList.drop (min x.length 16))=cellsOf bs:=by rw [hbs];simp [cellsOf]
  rw [hcb]
  obtain ⟨w4,hw4⟩:∃ w4,w4=w3.setRow (w.heap.size+1) (cellsOf bs).toArray:=⟨_,rfl⟩
  rw [← hw4]
  have hoth4:∀ k,k ≠ w.heap.size+1→w4.heap[k]?=w3.heap[k]?:=fun k hk=>by rw [hw4];exact setRow_other _ _ _ _ hk
  have hb4:w4.heap[w.heap.size+1]?=some (.cells (cellsOf bs).toArray T0 (0,0)):=by rw [hw4];exact setRow_heap _ _ _ _ _ _ hb3
  have hr4:w4.heap[w.heap.size]?=some (.cells (cellsOf (List.replicate 16 0)).toArray T0 (0,0)):=by rw [hoth4 _ (by omega)];exact hr3
  have hon4:Only rb w w4:=by rw [hw4];exact (hon2.trans m2).own (by omega) _
  refine ⟨⟨hon4.os.trans hon2.os.symm,hon4.tape.trans hon2.tape.symm,hon4.output.trans hon2.output.symm,by rw [hw4];simpa using hs3,fun k hk=>by omega⟩,dreg_nil ?_⟩
  simp only [Exit.then]
  have hlb:(cellsOf bs).length=16:=by rw [cLen];exact hbl
  refine SC.wp_seq (SC.wp_reg (oNo rfl (opw_load_agg (cs:=cellsOf bs) (b:=w.heap.size+1) (o:=0) (by rw [hlb];exact hag) (by simp (disch:=(try simp only [sPu]);omega)) (fun j v hj=>by
    rw [Nat.zero_add,cell_of_row _ _ _ _ _ _ hb4,List.getElem?_toArray];exact hj) (oNo rfl (opw_store_agg (cs:=cellsOf bs) (cur:=(cellsOf (List.replicate 16 0)).toArray) (b:=w.heap.size) (E:=T0) (by rw [hlb];exact hag) (by simp (disch:=(try simp only [sPu]);omega)) (by simp (disch:=(try simp only [sPu]);omega)) hr4 (by rw [hlb];simp [cellsOf]) (by intro v hv;simp only [cellsOf,List.mem_map] at hv;obtain ⟨u',_,rfl⟩:=hv;rfl) (oNi ?_))))))
  rw [pNo]
  simp only [Exit.then]
  refine SC.wp_ret ?_
  have hfin:=setRow_heap w4 w.heap.size _ (cellsOf bs).toArray _ _ hr4
  have hoth5:∀ k,k ≠ w.heap.size→(w4.setRow w.heap.size (cellsOf bs).toArray).heap[k]?=w4.heap[k]?:=fun k hk=>setRow_other _ _ _ _ hk
  have haft:after st (pPrim false false .uuid)=after st (pSpan 16):=by
    simp only [pPrim]
    exact after_map
  refine ret_cellAgg (cs:=cellsOf bs) (b:=w.heap.size) hr (by rw [hlb];exact hag) (by simp (disch:=(try simp only [sPu]);omega)) (fun j v hj=>by
    rw [cell_of_row _ _ _ _ _ _ hfin,List.getElem?_toArray];exact hj) (by simp [dPu,hd]) ⟨_,rfl,?_,hon4.own (Nat.le_refl _) _,⟨bs,hbl,rfl⟩,fun b t r hst hp=>?_⟩
  · rw [haft]
    exact RdAt.frame m1 (by rw [hoth5 _ (by omega),hoth4 _ (by omega)]) fun sb h=>by have:=(hsrc sb h).2;rw [hoth5 _ (by omega),hoth4 _ (by omega)]
  · intro hm
    rw [if_pos rfl]
    simp only [pPrim] at hp
    obtain ⟨s,r1,k1,k2⟩:=rThen_some hp
    obtain ⟨rfl,rfl⟩:=rOk_some k2
    obtain ⟨rfl,-⟩:=m4 b s _ hst k1
    have hl:=pSpan_facts k1
    have hx16:x.length=16:=by omega
    have e1:bs=x:=by rw [hbs,hx16,Nat.min_self,List.take_of_length_le (by omega),List.drop_of_length_le (by simp),List.append_nil]
    have e2:uuidOf (tS x)=x:=by simp [uuidOf,tS,Tree.s,List.take_append,hx16]
    rw [e1,e2]
end
end Go.Proofs.YtmapoohbongifaaGreatDoor.K
namespace Go.Proofs.YtmapoohbongifaaGreatDoor.K
open Go Go.RowKit Go.Proofs.YtmapoohbongifaaGreatDoor.T
attribute [local simp] eTm eCo pNo gTp gTn qv qcall vop iop
set_option linter.unusedSimpArgs false
set_option linter.unusedVariables false
def sc_AppendNullableBytes (T0 F0 F1:Nat):SC:=.seq (.reg [⟨some 4,.assign (.const (.slice none 0 0)),none⟩]) (.seq (.seq (.reg [mv 5 1,⟨some 6,.binOp .eql T0 (.tmp 5) (.const (.slice none 0 0)) T0,none⟩]) (.cond (.tmp 6) (.seq (.reg [mv 7 0,⟨some 8,.call ⟨.value (.func F0),#[(.tmp 7),(.const (.int .i32 (-1)))],#[]⟩,none⟩,asg 4 8]) (.ret)) (.skip))) (.seq (.reg [mv 9 0,mv 10 1,cal 11 F1 [9,10],asg 4 11]) (.ret)))
section
variable {P:Program} {tU8:Nat}
theorem appendNullBytes0_ok {f F0 F1 : FuncId} {fn : Func} {T0 E n : Nat} (hf : P.funcs[f]? = some fn) (hb : fn.body.map strip = some (sc_AppendNullableBytes T0 F0 F1)) (hnm : (fn.name == "runtime.NumGoroutine") = false) (hn : fn.ntmps = 12) (hr : fn.results = #[.tmp 4]) (hT : sliceB P T0 E n = true)
    (hg:AP P tU8 F0 #[.int .i32 (-1)] (fun _ _=>True) (fixed (-1) 4)) (cap:Nat):AP P tU8 f #[.slice none 0 cap] (fun _ _=>True) (counted false true 0 4):=by
  refine AP_of hf hb hnm hn (by simp) fun w B dv xs a0 ho hB hl _ hs hd hh0 ha=>?_
  have hx0:=ha 0 (.slice none 0 cap) rfl
  simp only [Nat.zero_add] at hx0
  refine SC.wp_seq (SC.wp_reg ?_)
  repeat (apply ops_1;(focus (simp (disch:=(try simp only [sPu]);omega) ;try rfl)))
  refine oNi (SC.wp_seq (SC.wp_seq (SC.wp_reg ?_)))
  iterate 1 (apply ops_1;(focus (simp (disch:=(try simp only [sPu]);omega) [hx0];try rfl)))
  refine oNo rfl (opw_eqlnil_slice (base:=none) (len:=0) (cap:=cap) hT (by simp (disch:=(try simp only [sPu]);omega) [hx0]) (oNi ?_))
  simp only [Exit.then]
  refine SC.wp_cond (t:=true) (by simp (disch:=(try simp only [sPu]);omega)) ?_
  rw [if_pos rfl]
  refine SC.wp_seq (SC.wp_reg ?_)
  iterate 1 (apply ops_1;(focus (simp (disch:=(try simp only [sPu]);omega) [hh0];try rfl)))
  obtain ⟨⟨fn',g1,g2,g3⟩,hg'⟩:=hg
  have hl':xs.length+(fixed (-1) 4).length≤lim:=by simpa [counted] using hl
  refine oNo rfl (opw_call g1 g2 g3 (Eq.mp (congrArg (fun z=>Calls P F0 z w _) ?_) (hg' w B dv xs ho hB hl' trivial)) ?_)
  · simp (disch:=(try simp only [sPu]);omega) [hh0]
  rintro e w' ⟨dv',rfl,q1,q2,q3⟩
  refine ⟨_,rfl,?_⟩
  repeat (apply ops_1;(focus (simp (disch:=(try simp only [sPu]);omega) ;try rfl)))
  refine oNi (SC.wp_ret ?_)
  try simp only [Exit.then]
  refine ret_tmp hr (by simp [dPu,hd]) ⟨dv',?_,by simpa [counted] using q1,q2,q3⟩
  simp (disch:=(try simp only [sPu]);omega)
theorem appendNullBytes_ok {f F0 F1 : FuncId} {fn : Func} {T0 E n : Nat} (hf : P.funcs[f]? = some fn) (hb : fn.body.map strip = some (sc_AppendNullableBytes T0 F0 F1)) (hnm : (fn.name == "runtime.NumGoroutine") = false) (hn : fn.ntmps = 12) (hr : fn.results = #[.tmp 4]) (hT : sliceB P T0 E n = true)
    {base:Option Addr} {cap:Nat} {bs:Bytes} (hg:AP P tU8 F1 #[.slice base bs.length cap] (fun w B=>BytesAt w (· < B) base bs) (counted false false bs.length 4 ++ bs)) (hne:base ≠ none):AP P tU8 f #[.slice base bs.length cap] (fun w B=>BytesAt w (· < B) base bs) (counted false false bs.length 4 ++ bs):=by
  refine AP_of hf hb hnm hn (by simp) fun w B dv xs a0 ho hB hl hpre hs hd hh0 ha=>?_
  have hx0:=ha 0 (.slice base bs.length cap) rfl
  simp only [Nat.zero_add] at hx0
  have hno:base.isNone=false:=by cases base <;> simp_all
  refine SC.wp_seq (SC.wp_reg ?_)
  repeat (apply ops_1;(focus (simp (disch:=(try simp only [sPu]);omega) ;try rfl)))
  refine oNi (SC.wp_seq (SC.wp_seq (SC.wp_reg ?_)))
  iterate 1 (apply ops_1;(focus (simp (disch:=(try simp only [sPu]);omega) [hx0];try rfl)))
  refine oNo rfl (opw_eqlnil_slice (base:=base) (len:=bs.length) (cap:=cap) hT (by simp (disch:=(try simp only [sPu]);omega) [hx0]) (oNi ?_))
  simp only [Exit.then]
  refine SC.wp_cond (t:=false) (by simp (disch:=(try simp only [sPu]);omega) [hno]) ?_
  rw [if_neg (by simp)]
  refine SC.wp_skip ?_
  simp only [Exit.then]
  refine SC.wp_seq (SC.wp_reg ?_)
  iterate 2 (apply ops_1;(focus (simp (disch:=(try simp only [sPu]);omega) [hh0,hx0];try rfl)))
  obtain ⟨⟨fn',g1,g2,g3⟩,hg'⟩:=hg
  refine oNo rfl (opw_call g1 g2 g3 (Eq.mp (congrArg (fun z=>Calls P F1 z w _) ?_) (hg' w B dv xs ho hB hl hpre)) ?_)
  · simp (disch:=(try simp only [sPu]);omega) [hh0,hx0]
  rintro e w' ⟨dv',rfl,q1,q2,q3⟩
  refine ⟨_,rfl,?_⟩
  repeat (apply ops_1;(focus (simp (disch:=(try simp only [sPu]);omega) ;try rfl)))
  refine oNi (SC.wp_ret ?_)
  try simp only [Exit.then]
  refine ret_tmp hr (by simp [dPu,hd]) ⟨dv',?_,q1,q2,q3⟩
  simp (disch:=(try simp only [sPu]);omega)
end
end Go.Proofs.YtmapoohbongifaaGreatDoor.K
namespace Go.Proofs.YtmapoohbongifaaGreatDoor.T
set_option linter.unusedVariables false
set_option linter.unusedSimpArgs false
mutual
def Tree.bulk:Tree→Nat
  | .mk _ s _ l u=>1+s.length+bulkL l+bulkU u
def bulkL:List Tree→Nat
  | []=>0
  | t :: r=>Tree.bulk t+bulkL r
def bulkU:List (Nat × Bytes)→Nat
  | []=>0
  | x :: r=>1+x.2.length+bulkU r
end
theorem bulk_pos (t:Tree):1≤t.bulk:=by cases t;simp only [Tree.bulk];omega
theorem bulk_mk (t:Tree):t.bulk=1+t.s.length+bulkL t.l+bulkU t.u:=by cases t;simp only [Tree.bulk,Tree.s,Tree.l,Tree.u]
theorem bulkL_head:∀ ts:List Tree,(ts.headD Tree.zero).bulk≤1+bulkL ts
  | []=>by simp [Tree.zero,Tree.bulk,bulkL,bulkU]
  | t :: r=>by simp only [List.headD_cons,bulkL];omega
theorem bulkL_tail:∀ ts:List Tree,bulkL ts.tail≤bulkL ts
  | []=>by simp
  | t :: r=>by simp only [List.tail_cons,bulkL];omega
theorem bulkL_take:∀ (n:Nat) (ts:List Tree),bulkL (ts.take n)≤bulkL ts
  | 0,ts=>by simp [bulkL]
  | n+1,[]=>by simp
  | n+1,t :: r=>by simp only [List.take_succ_cons,bulkL];have:=bulkL_take n r;omega
theorem uvl:∀ (k n:Nat),n < 128 ^ (k+1)→(uvarint n).length≤k+1
  | 0,n,h=>by rw [uvarint_le (by simpa using (by omega:n≤127))];simp
  | k+1,n,h=>by
    by_cases hn:n≤127
    · rw [uvarint_le hn];simp
    · rw [uvarint_gt hn]
      have:=uvl k (n / 128) (Nat.div_lt_of_lt_mul (by rw [Nat.pow_succ] at h;omega))
      simp only [List.length_cons]
      omega
theorem uv5 {n:Nat} (h:n < 4294967296):(uvarint n).length≤5:=uvl 4 n (Nat.lt_trans h (by decide))
theorem counted8 (flex null:Bool) (n size:Nat) (hn:n≤most) (hs:size≤8):(counted flex null n size).length≤8:=by
  have hm:most=32767:=rfl
  have:=uv5 (n:=n+1) (by omega)
  unfold counted
  split <;> split
  · simp
  · omega
  · rw [fixed_length];exact hs
  · rw [fixed_length];exact hs
theorem prim_len8 (flex null:Bool) (t:Tree) (k:PK):(wPrim flex null t k).length≤16+t.s.length∧(wPrim flex null t k).length≤32783:=by
  have hm:most=32767:=rfl
  have hw:(whole t.s).length≤t.s.length:=by simp [whole];omega
  have hw':=whole_length t.s
  have hs:(if null=true then ([]:Bytes) else whole t.s).length≤t.s.length∧(if null=true then ([]:Bytes) else whole t.s).length≤most:=by
    split
    · simp
    · exact ⟨hw,hw'⟩
  cases k <;> simp only [wPrim,PK.width,fixed_length]
  case bool=>simp;omega
  case uuid=>simp
  case str =>
    rw [List.length_append]
    have:=counted8 flex null _ 2 hs.2 (by decide)
    omega
  case bytes =>
    rw [List.length_append]
    have:=counted8 flex null _ 4 hs.2 (by decide)
    omega
  all_goals omega
theorem whole_len (b:Bytes):(whole b).length≤b.length:=by simp [whole];omega
theorem tag_len {t:Nat × Bytes} (h:t.1 < 4294967296):(wTag t).length≤10 * (1+t.2.length)∧(wTag t).length≤32777:=by
  have hm:most=32767:=rfl
  have h1:=uv5 h
  have h2:=whole_length t.2
  have h3:=uv5 (n:=(whole t.2).length) (by omega)
  have h4:=whole_len t.2
  simp only [wTag,List.length_append]
  omega
theorem ins_len (t:Nat × Bytes):∀ l:List (Nat × Bytes),bulkU (insTag t l)≤1+t.2.length+bulkU l
  | []=>by simp [insTag,bulkU]
  | x :: r=>by
    simp only [insTag]
    split
    · simp only [bulkU];have:=ins_len t r;omega
    · split
      · omega
      · simp only [bulkU];omega
theorem fold_len:∀ (l acc:List (Nat × Bytes)),bulkU (l.foldl (fun acc t=>insTag t acc) acc)≤bulkU acc+bulkU l
  | [],acc=>by simp [bulkU]
  | x :: r,acc=>by
    simp only [List.foldl_cons,bulkU]
    have h1:=fold_len r (insTag x acc)
    have h2:=ins_len x acc
    omega
theorem bulkU_take:∀ (n:Nat) (ts:List (Nat × Bytes)),bulkU (ts.take n)≤bulkU ts
  | 0,ts=>by simp [bulkU]
  | n+1,[]=>by simp
  | n+1,t :: r=>by simp only [List.take_succ_cons,bulkU];have:=bulkU_take n r;omega
theorem unknown_bulk (u:List (Nat × Bytes)):bulkU (unknown u)≤bulkU u:=by
  have h1:=fold_len (u.take most) []
  have h2:=bulkU_take most u
  simp only [bulkU] at h1
  simp only [unknown]
  omega
theorem flat_tags:∀ u:List (Nat × Bytes),(∀ x ∈ u,x.1 < 4294967296)→(u.flatMap wTag).length≤10 * bulkU u∧(u.flatMap wTag).length≤32777 * u.length
  | [],_=>by simp [bulkU]
  | x :: r,h=>by
    have h1:=tag_len (h x (by simp))
    have h2:=flat_tags r fun y hy=>h y (List.mem_cons_of_mem _ hy)
    simp only [List.flatMap_cons,List.length_append,bulkU,List.length_cons]
    omega
theorem tags_len8 (flex:Bool) (u:List (Nat × Bytes)) (h:∀ x ∈ u,x.1 < 4294967296):(wTags flex u).length≤10 * (1+bulkU u)∧(wTags flex u).length≤if flex then 1074003964 else 0:=by
  have hm:most=32767:=rfl
  cases flex
  · simp [wTags]
  · obtain ⟨_,h2,h3⟩:=unknown_facts u
    have h1:=flat_tags (unknown u) fun x hx=>h x (h2 x hx)
    have h4:=uv5 (n:=(unknown u).length) (by omega)
    have h5:=unknown_bulk u
    simp only [wTags,if_true,List.length_append]
    omega
mutual
def cTy:Ty→Nat
  | .prim _=>16
  | .list _ _ _ of=>8+cTy of
  | .struct _ _ _ _ fs=>10+cFs fs
def cFs:Fs→Nat
  | .nil=>0
  | .cons _ ty r=>1+cTy ty+cFs r
end
mutual
def mTy (flex:Bool):Ty→Nat
  | .prim k=>match k with | .str=>32783 | .bytes=>32783 | _=>32783
  | .list _ _ _ of=>8+32767 * mTy flex of
  | .struct _ _ _ _ fs=>mFs flex fs+if flex then 1074003964 else 0
def mFs (flex:Bool):Fs→Nat
  | .nil=>0
  | .cons _ ty r=>1+mTy flex ty+mFs flex r
end
theorem flat_len {w:Tree→Bytes} {c m:Nat}:∀ l:List Tree,(∀ x ∈ l,(w x).length≤c * x.bulk∧(w x).length≤m)→(l.flatMap w).length≤c * bulkL l∧(l.flatMap w).length≤l.length * m
  | [],_=>by simp
  | x :: r,h=>by
    have h1:=h x (by simp)
    have h2:=flat_len r fun y hy=>h y (List.mem_cons_of_mem _ hy)
    simp only [List.flatMap_cons,List.length_append,bulkL,List.length_cons,Nat.mul_add,Nat.add_mul,Nat.one_mul]
    omega
mutual
theorem ty_len8 (ver:Int) (flex:Bool):∀ (ty:Ty) (nul:Bool) (t:Tree),KTy ver ty t→(wTy ver flex ty nul t).length≤cTy ty * t.bulk∧(wTy ver flex ty nul t).length≤mTy flex ty
  | .prim k,nul,t,_=>by
    have h:=prim_len8 flex nul t k
    have hb:=bulk_mk t
    have hm:mTy flex (.prim k)=32783:=by cases k <;> rfl
    rw [hm]
    simp only [wTy,cTy]
    omega
  | .list a b c of,nul,t,hk=>by
    simp only [KTy] at hk
    have hmo:most=32767:=rfl
    have hb:=bulk_mk t
    simp only [wTy,cTy,mTy,List.length_append]
    have hl:(if nul=true then ([]:List Tree) else t.l.take most).length≤most∧bulkL (if nul=true then ([]:List Tree) else t.l.take most)≤bulkL t.l∧∀ x ∈ (if nul=true then ([]:List Tree) else t.l.take most),KTy ver of x:=by
      split
      · simp [bulkL]
      · exact ⟨by simp;omega,bulkL_take _ _,fun x hx=>hk x (List.mem_of_mem_take hx)⟩
    generalize (if nul=true then ([]:List Tree) else t.l.take most)=l at hl
    obtain ⟨l1,l2,l3⟩:=hl
    have h1:=counted8 flex nul l.length 4 l1 (by decide)
    have h2:=flat_len (w:=fun x=>wTy ver flex of false x) l fun x hx=>ty_len8 ver flex of false x (l3 x hx)
    have h3:cTy of * bulkL l≤cTy of * t.bulk:=Nat.mul_le_mul_left _ (by omega)
    have h4:l.length * mTy flex of≤32767 * mTy flex of:=Nat.mul_le_mul_right _ (by omega)
    rw [Nat.add_mul]
    have:=bulk_pos t
    omega
  | .struct a b c d fs,nul,t,hk=>by
    simp only [KTy] at hk
    have h1:=fs_len8 ver flex fs t.l hk.1
    have h2:=tags_len8 flex t.u hk.2
    have hb:=bulk_mk t
    simp only [wTy,cTy,mTy,List.length_append]
    have h3:cFs fs * (1+bulkL t.l)≤cFs fs * t.bulk:=Nat.mul_le_mul_left _ (by omega)
    rw [Nat.add_mul]
    omega
theorem fs_len8 (ver:Int) (flex:Bool):∀ (fs:Fs) (ts:List Tree),KFs ver fs ts→(wFs ver flex fs ts).length≤cFs fs * (1+bulkL ts)∧(wFs ver flex fs ts).length≤mFs flex fs
  | .nil,ts,_=>by simp [wFs,cFs,mFs]
  | .cons h ty r,ts,hk=>by
    simp only [KFs] at hk
    rw [wFs_cons,List.length_append]
    have h1:=fs_len8 ver flex r ts.tail hk.2
    have ht:=bulkL_tail ts
    have h2:cFs r * (1+bulkL ts.tail)≤cFs r * (1+bulkL ts):=Nat.mul_le_mul_left _ (by omega)
    simp only [cFs,mFs,Nat.add_mul,Nat.one_mul]
    by_cases hh:h.has ver=true
    · rw [if_pos hh]
      have hk1:=hk.1 hh
      have hbh:=bulkL_head ts
      generalize ts.headD Tree.zero=t at hk1 hbh
      have h3:=fun nul=>ty_len8 ver flex ty nul t hk1
      have h4:cTy ty * t.bulk≤cTy ty * (1+bulkL ts):=Nat.mul_le_mul_left _ (by omega)
      have key:(wField ver flex h ty t).length≤1+cTy ty * t.bulk∧(wField ver flex h ty t).length≤1+mTy flex ty:=by
        cases ty with
        | struct a b c d e =>
          simp only [wField]
          have:=h3 false
          split
          · split
            · simp
            · simp only [List.length_cons];omega
          · omega
        | prim k=>simp only [wField];have:=h3 (h.isNull ver t);omega
        | list a b c e=>simp only [wField];have:=h3 (h.isNull ver t);omega
      omega
    · rw [if_neg hh,List.length_nil]
      omega
end
theorem msg_len8 (ver:Int) (flex:Bool) (fs:Fs) (t:Tree) (hk:KFs ver fs t.l) (hu:∀ x ∈ t.u,x.1 < 4294967296):(wMsg ver flex fs t.l t.u).length≤(10+cFs fs) * t.bulk∧(wMsg ver flex fs t.l t.u).length≤mFs flex fs+if flex then 1074003964 else 0:=by
  have h1:=fs_len8 ver flex fs t.l hk
  have h2:=tags_len8 flex t.u hu
  have hb:=bulk_mk t
  have h3:cFs fs * (1+bulkL t.l)≤cFs fs * t.bulk:=Nat.mul_le_mul_left _ (by omega)
  simp only [wMsg,List.length_append]
  rw [Nat.add_mul]
  omega
inductive KAll:Tree→Prop where
  | mk (n:Int) (s:Bytes) (null:Bool) (l:List Tree) (u:List (Nat × Bytes)) (hl:∀ (i:Nat) (x:Tree),l[i]?=some x→KAll x) (hu:∀ x ∈ u,x.1 < 4294967296):KAll (.mk n s null l u)
theorem KAll.l {t:Tree} (h:KAll t):∀ x ∈ t.l,KAll x:=by
  cases h with
  | mk n s null l u hl hu =>
    intro x hx
    obtain ⟨i,hi⟩:=List.getElem?_of_mem hx
    exact hl i x hi
theorem KAll.u {t:Tree} (h:KAll t):∀ x ∈ t.u,x.1 < 4294967296:=by
  cases h with
  | mk n s null l u hl hu=>exact hu
theorem KAll.zero:KAll Tree.zero:=.mk _ _ _ _ _ (fun i x h=>by simp at h) (fun x h=>by cases h)
mutual
theorem kAll_ty (ver:Int):∀ (ty:Ty) (t:Tree),KAll t→KTy ver ty t
  | .prim _,t,_=>by simp [KTy]
  | .list _ _ _ of,t,h=>by simp only [KTy];exact fun x hx=>kAll_ty ver of x (h.l x hx)
  | .struct _ _ _ _ fs,t,h=>by simp only [KTy];exact ⟨kAll_fs ver fs t.l h.l,h.u⟩
theorem kAll_fs (ver:Int):∀ (fs:Fs) (ts:List Tree),(∀ x ∈ ts,KAll x)→KFs ver fs ts
  | .nil,ts,_=>by simp [KFs]
  | .cons h ty r,ts,hk=>by
    simp only [KFs]
    refine ⟨fun _=>kAll_ty ver ty _ ?_,kAll_fs ver r ts.tail fun x hx=>hk x (List.mem_of_mem_tail hx)⟩
    cases ts with
    | nil=>exact KAll.zero
    | cons t r=>exact hk t (by simp)
end
end Go.Proofs.YtmapoohbongifaaGreatDoor.T
