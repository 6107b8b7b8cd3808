/- Generic texts: R24 Z3 E1 E2 E3 K14 R25 R26. No condition. -/
import Derived.Test.YtdnpafdgglpagaaGreatDoorN10
import Derived.Maps.RangeRun
import Derived.Great.BuildSlice
import Derived.Shelf.GgSortFunc.Whole
import Derived.Shelf.GgSortFunc.Tiny
namespace Go.Proofs.YtdnpafdgglpagaaGreatDoor.K
open Go Go.RowKit Go.Proofs.YtdnpafdgglpagaaGreatDoor.T
attribute [local simp] eTm eCo pNo gTp gTn qv qcall vop iop
set_option linter.unusedVariables false
set_option linter.unusedSimpArgs false
set_option maxHeartbeats 2000000
def sc_ReadFromW (F0:Nat):SC:=.seq (.reg [⟨some 4,.assign (.const .nilIface),none⟩]) (.seq (.reg [mv 5 0,mv 6 1,⟨some 7,.call ⟨.value (.func F0),#[(.tmp 5),(.tmp 6),(.const (.bool false))],#[]⟩,none⟩,asg 4 7]) (.ret))
def sc_Again (T0 T1 T2 T3 F0 F1 F2 F3:Nat):SC:=.seq (.reg [⟨some 4,.assign (.const (.slice none 0 0)),none⟩,⟨some 5,.assign (.const (.bool false)),none⟩]) (.seq (.reg [cal 7 F0 [],asg 6 7]) (.seq (.reg [mv 8 6,mv 9 0,⟨some 10,.convert T0 T1 (.tmp 9),none⟩,cal 11 F1 [8,10]]) (.seq (.seq (.reg [mv 12 6,mv 13 1,⟨some 14,.call ⟨.builtin .append,#[(.const (.slice none 0 0)),(.tmp 13)],#[T2,T2]⟩,none⟩,cal 15 F2 [12,14],⟨some 16,.binOp .neq T3 (.tmp 15) (.const .nilIface) T3,none⟩]) (.cond (.tmp 16) (.seq (.reg [⟨some 4,.assign (.const (.slice none 0 0)),none⟩,⟨some 5,.assign (.const (.bool false)),none⟩]) (.ret)) (.skip))) (.seq (.reg [mv 17 6,⟨some 18,.call ⟨.value (.func F3),#[(.tmp 17),(.const (.slice none 0 0))],#[]⟩,none⟩,asg 4 18,⟨some 5,.assign (.const (.bool true)),none⟩]) (.ret)))))
section
variable {P:Program} {f:FuncId} {fn:Func}
theorem readFromW_ok {F0:Nat} (oF:FnOK P F0) (hf:P.funcs[f]?=some fn) (hb:fn.body.map strip=some (sc_ReadFromW F0)) (hn:fn.ntmps=8) (hr:fn.results=#[.tmp 4]) (w:World) (x y:Value) (R:Ending->World->Prop)
  (hc:Calls P F0 #[x,y,.bool false] w fun e w'=>∃ v,e=.returned v/\R e w'):Calls P f #[x,y] w R:=by
 refine fCa hf hb hn (by simp) fun a0 hs hd ha=>?_
 have h0:=ha 0 _ rfl
 have h1:=ha 1 _ rfl
 simp only [List.getElem_toArray,List.getElem_cons_zero,List.getElem_cons_succ] at h0 h1
 refine wSq (wRg ?_)
 repeat (apply ops_1;(focus (simp (disch:=(try simp only [sPu]);omega) ;try rfl)))
 refine oNi (wSq (wRg ?_))
 iterate 2 (apply ops_1;(focus (simp (disch:=(try simp only [sPu]);omega) [h0,h1];try rfl)))
 refine ops_call oF hc (by simp (disch:=(try simp only [sPu]);omega) [h0,h1]) ?_
 rintro e w1 ⟨v,rfl,hR⟩
 refine ⟨_,rfl,?_⟩
 repeat (apply ops_1;(focus (simp (disch:=(try simp only [sPu]);omega) ;try rfl)))
 refine oNi (wRt (ret_tmp hr (by simp [dPu,hd]) ?_))
 simp (disch:=(try simp only [sPu]);omega)
 exact hR
def AgC (P:Program) (tU8:Nat) (flex:Option Int) (fs kn:Fs) (gb m:Nat) (Gl:World->Prop) (F:FuncId):Prop:=FnOK P F/\∀ (w:World) (S:Option Nat) (base:Option Addr) (src:Bytes) (cap v:Nat),v<=m->gb < w.heap.size->(∀ w',Below w.heap.size w w'->Gl w')->SrcAt w S base src->(∀ sb,S=some sb->sb < w.heap.size)->src.length<=lim->KGood (flexAt flex v) (after (some src) (pFs v (flexAt flex v) fs)) kn ->
 (∀ xs u r,pMsg v (flexAt flex v) fs kn src=some ((xs,u),r)->FitFs v fs xs/\FitTags u/\FitKn v kn (xs.drop (Fs.len fs))/\(wMsg v (flexAt flex v) fs kn xs u).length<=lim) ->
 Calls P F #[.int .i64 (v:Int),.slice base src.length cap] w fun e w'=>Below w.heap.size w w' /\
  match pMsg v (flexAt flex v) fs kn src with
  | none=>e=.returned (.tuple #[.slice none 0 0,.bool false])
  | some ((xs,u),r)=>∃ dv,e=.returned (.tuple #[dv,.bool true])/\Own tU8 w' w.heap.size dv (wMsg v (flexAt flex v) fs kn xs u)
theorem res2 {a:Act} {w:World} {r1 r2:Nat} {v1 v2:Value} (hr:fn.results=#[.tmp r1,.tmp r2]) (h1:getT a r1=v1) (h2:getT a r2=v2):(results fn a.tmps).run P w=.ok (.tuple #[v1,v2]) w:=by
 have e1:a.tmps.getD r1 undef=v1:=h1
 have e2:a.tmps.getD r2 undef=v2:=h2
 simp only [Array.getD_eq_getD_getElem?] at e1 e2
 simp [results,hr,e1,e2]
theorem own_base {tU8:Nat} {w:World} {B B':Nat} {dv:Value} {xs:Bytes} (h:Own tU8 w B dv xs) (hB:B'<=B):Own tU8 w B' dv xs:=by
 obtain ⟨h1,h2 | ⟨g,cap,cur,e1,e2,e3⟩⟩:=h
 ·exact ⟨h1,.inl h2⟩
 ·exact ⟨h1,.inr ⟨g,cap,cur,e1,Nat.le_trans hB e2,e3⟩⟩
theorem pMsg_body {ver:Int} {flex:Bool} {fs kn:Fs} {b:Bytes}:pMsg ver flex fs kn b=(pBody ver flex fs kn b).map fun z=>((z.1.l,z.1.u),z.2):=by
 simp only [pMsg,pBody,rThen]
 cases h1:pFs ver flex fs b with
 | none=>rfl
 | some z =>
  obtain ⟨xs,r⟩:=z
  simp only [Option.bind_some]
  cases h2:pKn ver flex kn r with
  | none=>rfl
  | some z2=>rfl
theorem frKn_from {w w':World} {b e size:Nat} {tags:Option (Nat × Nat)} {kn:Fs} (hl:layKn tags kn=true) (he:endF size tags kn=e) (h1:1<=e) (hsz:∀ f off,tags=some (f,off)->off < size/\1<=off) (hc:∀ j,1<=j->w'.cell? ⟨b,j,none⟩=w.cell? ⟨b,j,none⟩) (h:FrKn w b tags kn 0):FrKn w' b tags kn 0:=by
 cases kn with
 | nil=>simp [FrKn]
 | cons h2 ty r =>
  simp only [FrKn] at h ⊢
  simp only [endF] at he
  simp only [layKn,Bool.and_eq_true] at hl
  obtain ⟨⟨f,off,rfl,g1⟩,g2,g3⟩:=h
  have:=hsz f off rfl
  refine ⟨⟨f,off,rfl,by rw [hc _ (by omega)];exact g1⟩,frTy_frame false ty _ hl.1 (fun j q1 q2=>hc j (by omega)) g2,?_⟩
  unfold knCells at g3 ⊢
  cases ty with
  | struct a sz d tg fs kn=>simp only at g3 ⊢;rw [hc _ (by omega)];exact g3
  | _=>trivial
theorem again_ok {I:RIds} {M:RTop} {tU8 gb m T0 T1 T2 T3 F0 F1 F2 F3 FR:Nat} {G:List (Nat × Bytes)->Prop} {Gl:World->Prop} {err:Value} {cs:Array Value} {T:TypeId}
  (h0k:intK P T0=some .i64) (h1k:intK P T1=some .i16) (hT2:u8sB P T2 tU8=true) (hT3:ifaceT P T3=true) (hm:m < 32768) (herr:∃ t y,err=.iface t y)
  (oNP:FnOK P F0) (cNP:∀ w:World,Calls P F0 #[] w fun e w'=>∃ b,e=.returned (.pointer (some ⟨b,0,none⟩))/\w.heap.size<=b/\w'.heap[b]?=some (.cells cs T (0,0))/\Below w.heap.size w w')
  (oSV:FnOK P F1) (cSV:∀ (w:World) (b:Nat) (cs:Array Value) (E:TypeId),w.heap[b]?=some (.cells cs E (0,0))->0 < cs.size->∀ n:Int,Calls P F1 #[.pointer (some ⟨b,0,none⟩),.int .i16 n] w fun e w'=>e=.returned (.tuple #[])/\w'=w.setRow b (cs.setIfInBounds 0 (.int .i16 n)))
  (oRF:FnOK P F2) (cRF:∀ (w:World) (x y:Value) (R:Ending->World->Prop),(Calls P FR #[x,y,.bool false] w fun e w'=>∃ v,e=.returned v/\R e w')->Calls P F2 #[x,y] w R)
  (cR:∀ (B:Nat) (w0:World),gb < B->(∀ w',Below B w0 w'->Gl w')->ReadC P I M B G err FR w0)
  (oAT:FnOK P F3) (cAT:∀ (w:World) (b:Nat) (ver:Int) (ts:List Tree) (u:List (Nat × Bytes)),b < w.heap.size->w.cell? ⟨b,0,none⟩=some (.int .i16 ver)->0<=ver->HFs G w (· < w.heap.size) ver (flexAt M.flex ver) M.fs b 0 ts->TagsAt G w (· < w.heap.size) (flexAt M.flex ver) b 0 M.tags u->HKn G w (· < w.heap.size) ver (flexAt M.flex ver) M.kn b 0 (ts.drop (Fs.len M.fs)) u ->
   (wMsg ver (flexAt M.flex ver) M.fs M.kn ts u).length<=lim->Calls P F3 #[.pointer (some ⟨b,0,none⟩),.slice none 0 0] w fun e w'=>∃ dv,e=.returned dv/\Own tU8 w' w.heap.size dv (wMsg ver (flexAt M.flex ver) M.fs M.kn ts u)/\Below w.heap.size w w')
  (hsz:M.size<=cs.size) (hs1:1<=M.size) (hlay:layFs 1 (endF M.size M.tags M.kn) M.fs=true) (hlk:layKn M.tags M.kn=true) (hle:1<=endF M.size M.tags M.kn) (hszt:∀ f off,M.tags=some (f,off)->off < M.size/\1<=off) (hfr:frFsB (fun j=>cs[j]?) M.fs 0=true) (hfrk:frKnB (fun j=>cs[j]?) M.tags M.kn 0=true)
  (hf : P.funcs[f]? = some fn) (hb : fn.body.map strip = some (sc_Again T0 T1 T2 T3 F0 F1 F2 F3)) (hnm : (fn.name == "runtime.NumGoroutine") = false) (hn : fn.ntmps = 19) (hr : fn.results = #[.tmp 4, .tmp 5]) : AgC P tU8 M.flex M.fs M.kn gb m Gl f := by
 refine ⟨fnOK_of hf hb hnm,fun w S base src cap v hv hgb hgl hsr hS hlen hgood hfit=>?_⟩
 refine fCa hf hb hn (by simp) fun a0 hs hd ha=>?_
 have h0:=ha 0 _ rfl
 have h1:=ha 1 _ rfl
 simp only [List.getElem_toArray,List.getElem_cons_zero,List.getElem_cons_succ] at h0 h1
 refine wSq (wRg ?_)
 repeat (apply ops_1;(focus (simp (disch:=(try simp only [sPu]);omega) ;try rfl)))
 refine oNi (wSq (wRg ?_))
 refine ops_call oNP (cNP w) (by simp (disch:=(try simp only [sPu]);omega)) ?_
 rintro e w1 ⟨b,rfl,hbw,hrow,hb1⟩
 refine ⟨_,rfl,?_⟩
 have hbl1:b < w1.heap.size:=(Array.getElem?_eq_some_iff.1 hrow).1
 repeat (apply ops_1;(focus (simp (disch:=(try simp only [sPu]);omega) ;try rfl)))
 refine oNi (wSq (wRg ?_))
 have hwv:IntKind.i16.wrap (v:Int)=(v:Int):=by
  simp only [IntKind.wrap,IntKind.bits,IntKind.signed]
  simp
  split <;> omega
 iterate 3 (apply ops_1;(focus (simp (disch:=(try simp only [sPu]);omega) [h0,h0k,h1k,hwv];try rfl)))
 refine ops_call oSV (cSV w1 b cs T hrow (by omega) (v:Int)) (by simp (disch:=(try simp only [sPu]);omega)) ?_
 rintro e w2 ⟨rfl,hw2⟩
 refine ⟨_,rfl,oNi ?_⟩
 simp only [Exit.then]
 have hrow2:w2.heap[b]?=some (.cells (cs.setIfInBounds 0 (.int .i16 v)) T (0,0)):=by rw [hw2];exact setRow_heap _ _ _ _ _ _ hrow
 have hb2:Below w.heap.size w w2:=by rw [hw2];exact hb1.trans ⟨rfl,rfl,rfl,by simp,fun k hk=>setRow_other _ _ _ _ (by omega)⟩
 have hsz2:w2.heap.size=w1.heap.size:=by rw [hw2];simp
 refine wSq (wSq (wRg ?_))
 iterate 2 (apply ops_1;(focus (simp (disch:=(try simp only [sPu]);omega) [h1];try rfl)))
 have hS2:SrcAt w2 S base src:=hsr.frame fun sb h=>hb2.block sb (hS sb h)
 have hu8:=(u8s_of hT2).1
 have hsrc:Src P 1 T2 (.slice base src.length cap) src.length (cellsOf src) w2:=by
  cases S with
  | none =>
   obtain ⟨rfl,rfl⟩:=hS2
   exact Src.ofNil w2 hu8 _
  | some sb =>
   obtain ⟨o,rfl,hc⟩:=hS2
   refine Src.ofSlice w2 hu8 ⟨sb,o,none⟩ src.length cap (cellsOf src) (by simp [cLen]) (fun j u hj=>?_) (fun u hu=>?_)
   ·rw [add_none]
    simp only [cellsOf,List.getElem?_map,Option.map_eq_some_iff] at hj
    obtain ⟨u',hu',rfl⟩:=hj
    exact hc j u' hu'
   ·simp only [cellsOf,List.mem_map] at hu
    obtain ⟨u',_,rfl⟩:=hu
    rfl
 refine oNo rfl (opw_appendU8 (B:=w2.heap.size) (xs:=[]) (bs:=src) (dv:=.slice none 0 0) (xv:=.slice base src.length cap) hT2 (eCo _ _) (by simp (disch:=(try simp only [sPu]);omega)) rfl (World.ownsRow_nil _ _ _ _) (Nat.le_refl _) hsrc (by simpa using hlen) fun dv w3 ho hb3 hbs3 _=>?_)
 rw [List.nil_append] at ho
 have hrow3:w3.heap[b]?=some (.cells (cs.setIfInBounds 0 (.int .i16 v)) T (0,0)):=by rw [hb3.block b (by omega)];exact hrow2
 have hb3':Below w.heap.size w w3:=hb2.trans ⟨hb3.os,hb3.tape,hb3.output,hb3.size,fun k hk=>hb3.block k (by have:=hb2.size;omega)⟩
 obtain ⟨S3,base3,cap3,rfl,hcap3,hsr3,hS3⟩:∃ S3 base3 cap3,dv=.slice base3 src.length cap3/\src.length<=cap3/\SrcAt w3 S3 base3 src/\∀ sb,S3=some sb->sb ≠ b/\sb < w3.heap.size:=by
  obtain ⟨ho1,⟨e1,e2⟩ | ⟨g,c3,cur,e1,e2,e3,e4,e5,e6,e7⟩⟩:=ho
  ·have hnil:src=[]:=List.length_eq_zero_iff.1 e2
   subst hnil
   exact ⟨none,none,0,e1,Nat.le_refl _,⟨rfl,rfl⟩,fun sb h=>by cases h⟩
  ·refine ⟨some g,some ⟨g,0,none⟩,c3,e1,e4,⟨0,rfl,fun j u hu=>?_⟩,fun sb h=>by cases h;exact ⟨by omega,(Array.getElem?_eq_some_iff.1 e3).1⟩⟩
   rw [cell_of_row _ _ _ _ _ _ e3,Nat.zero_add]
   have hj:(cellsOf src)[j]?=some (cell u):=by simp [cellsOf,hu]
   rw [<- e7,List.getElem?_take] at hj
   split at hj
   ·rwa [Array.getElem?_toList] at hj
   ·cases hj
 have hfr1:FrFs w1 b M.fs 0:=by
  have:=frFsB_ok (w:=w1) (b:=b) (q:=0) (get:=fun j=>cs[j]?) (fun j v hj=>by rw [Nat.zero_add,cell_of_row _ _ _ _ _ _ hrow];exact hj) M.fs 0 hfr
  simpa using this
 have hfr3:FrFs w3 b M.fs 0:=by
  refine frFs_frame (w:=w1) M.fs 1 (endF M.size M.tags M.kn) 0 hlay (fun j h1 h2=>?_) hfr1
  rw [cell_of_row _ _ _ _ _ _ hrow,cell_of_row _ _ _ _ _ _ hrow3]
  exact Array.getElem?_setIfInBounds_ne (by omega)
 have hfrk3:FrKn w3 b M.tags M.kn 0:=by
  have h1:FrKn w1 b M.tags M.kn 0:=by
   have:=frKnB_ok (w:=w1) (b:=b) (q:=0) (get:=fun j=>cs[j]?) (fun j v hj=>by rw [Nat.zero_add,cell_of_row _ _ _ _ _ _ hrow];exact hj) M.tags M.kn 0 hfrk
   simpa using this
  exact frKn_from (e:=endF M.size M.tags M.kn) hlk rfl hle hszt (fun j hj=>by
   rw [cell_of_row _ _ _ _ _ _ hrow,cell_of_row _ _ _ _ _ _ hrow3]
   exact Array.getElem?_setIfInBounds_ne (by omega)) h1
 have hcr:=cR w.heap.size w3 hgb (fun w' h=>hgl w' (hb3'.trans h)) S3 b _ T base3 src cap3 (v:Int) (by omega) hbw (by have:=hb3'.size;omega) hrow3 (by rw [Array.size_setIfInBounds];exact hsz) (by simp [show 0 < cs.size by omega]) hfr3 hfrk3 hgood hcap3 hsr3 hS3
 obtain ⟨R,hR⟩:∃ R:Ending->World->Prop,R=fun e w'=>∃ v',e=.returned v'/\((v'=.nilIface∨∃ t y,v'=.iface t y)/\Below w.heap.size w3 w'/\w.heap.size<=w'.heap.size /\
   match pMsg v (flexAt M.flex v) M.fs M.kn src with
   | none=>v'=err
   | some ((xs,u),r)=>v'=.nilIface/\b < w'.heap.size/\w'.cell? ⟨b,0,none⟩=some (.int .i16 v)/\HFs G w' (· < w'.heap.size) v (flexAt M.flex v) M.fs b 0 xs/\TagsAt G w' (· < w'.heap.size) (flexAt M.flex v) b 0 M.tags u/\HKn G w' (· < w'.heap.size) v (flexAt M.flex v) M.kn b 0 (xs.drop (Fs.len M.fs)) u):=⟨_,rfl⟩
 refine ops_call oRF (cRF w3 (.pointer (some ⟨b,0,none⟩)) (.slice base3 src.length cap3) R (hcr.mono fun e w' h=>?_)) (by simp (disch:=(try simp only [sPu]);omega)) ?_
 ·obtain ⟨z1,z2,z3⟩:=h
  rw [hR]
  simp only [pMsg_body]
  cases hp:pBody v (flexAt M.flex v) M.fs M.kn src with
  | none =>
   rw [hp] at z3
   simp only at z3
   subst z3
   exact ⟨_,rfl,_,rfl,.inr herr,z1,z2,rfl⟩
  | some zz =>
   obtain ⟨x,r⟩:=zz
   rw [hp] at z3
   obtain ⟨rfl,y1,y2,y3⟩:=z3
   have hft:=hfit x.l x.u r (by rw [pMsg_body,hp];rfl)
   obtain ⟨F,hF,q1,q2,q3⟩:=y3 hft.1 hft.2.1 hft.2.2.1
   refine ⟨_,rfl,_,rfl,.inl rfl,z1,z2,rfl,y1,y2,?_,?_,hKn_frame (fun k hk=>⟨hF k hk,rfl⟩) _ _ M.kn M.size M.tags b 0 _ _ hlk (fun f off e=>(hszt f off e).1) (fun _ _ _=>rfl) q3⟩
   ·exact hFs_frame (fun k hk=>⟨hF k hk,rfl⟩) _ _ M.fs 1 (endF M.size M.tags M.kn) b 0 x.l hlay (fun _ _ _=>rfl) q1
   ·cases ht:M.tags with
    | none=>rw [ht] at q2;exact q2
    | some z =>
     rw [ht] at q2
     exact fun hfl=>hTags_frame (fun k hk=>⟨hF k hk,rfl⟩) rfl (q2 hfl)
 rw [hR]
 rintro e w4 ⟨v',rfl,hv',hb4,hs4,hpost⟩
 refine ⟨_,rfl,?_⟩
 refine oNo rfl (opw_isErr (v:=v') hT3 (by simp (disch:=(try simp only [sPu]);omega)) hv' (oNi ?_))
 simp only [Exit.then]
 refine wCd (t:=isErr v') (by simp (disch:=(try simp only [sPu]);omega)) ?_
 have hb4':Below w.heap.size w w4:=hb3'.trans hb4
 cases hp:pMsg v (flexAt M.flex v) M.fs M.kn src with
 | none =>
  rw [hp] at hpost
  simp only at hpost
  subst hpost
  obtain ⟨t,y,rfl⟩:=herr
  simp only [isErr,if_true]
  refine wSq (wRg ?_)
  repeat (apply ops_1;(focus (simp (disch:=(try simp only [sPu]);omega) ;try rfl)))
  refine oNi (wRt ?_)
  try simp only [Exit.then]
  exact bodyPost_ret_by (v:=.tuple #[.slice none 0 0,.bool false]) (res2 hr (by simp (disch:=(try simp only [sPu]);omega)) (by simp (disch:=(try simp only [sPu]);omega))) (by simp [dPu,hd]) ⟨hb4',rfl⟩
 | some zz =>
  obtain ⟨⟨xs,u⟩,r⟩:=zz
  rw [hp] at hpost
  obtain ⟨rfl,y1,y2,y3,y4,y5⟩:=hpost
  simp only [isErr,Bool.false_eq_true,if_false]
  refine wSk ?_
  simp only [Exit.then]
  refine wSq (wRg ?_)
  iterate 1 (apply ops_1;(focus (simp (disch:=(try simp only [sPu]);omega) ;try rfl)))
  refine ops_call oAT (cAT w4 b v xs u y1 y2 (by omega) y3 y4 y5 (hfit xs u r hp).2.2.2) (by simp (disch:=(try simp only [sPu]);omega)) ?_
  rintro e w5 ⟨dv5,rfl,ho5,hb5⟩
  refine ⟨_,rfl,?_⟩
  repeat (apply ops_1;(focus (simp (disch:=(try simp only [sPu]);omega) ;try rfl)))
  refine oNi (wRt ?_)
  try simp only [Exit.then]
  exact bodyPost_ret_by (v:=.tuple #[dv5,.bool true]) (res2 hr (by simp (disch:=(try simp only [sPu]);omega)) (by simp (disch:=(try simp only [sPu]);omega))) (by simp [dPu,hd]) ⟨hb4'.trans ⟨hb5.os,hb5.tape,hb5.output,hb5.size,fun k hk=>hb5.block k (by omega)⟩,dv5,rfl,own_base ho5 (by omega)⟩
end
end Go.Proofs.YtdnpafdgglpagaaGreatDoor.K
namespace Go.Proofs.YtdnpafdgglpagaaGreatDoor.K
open Go Go.RowKit Go.Proofs.YtdnpafdgglpagaaGreatDoor.T
set_option linter.unusedSimpArgs false
set_option linter.unusedVariables false
section
variable {P:Program} {f:FuncId} {fn:Func}
theorem ops_callg {all:List SOp} {a:Act} {w:World} {t g j dj:Nat} {want:Bool} {args:Array Operand} {argsV:Array Value} {r:List SOp} {K:Act->World->Prop} {R:Ending->World->Prop} (hj:(all[j]?).bind (·.dst)=some dj) (hlt:dj < a.tmps.size) (hb:getT a dj=.bool want) (hf:FnOK P g) (hc:Calls P g argsV w R) (hargs:args.map a.eval=argsV)
  (hR:∀ e w',R e w'->∃ v,e=.returned v/\opsw P all r K (a.put (some t) v) w'):opsw P all (⟨some t,.call ⟨.value (.func g),args,#[]⟩,some (j,want)⟩ :: r) K a w:=by
 obtain ⟨fn,h1,h2,h3⟩:=hf
 refine ⟨dj,want,hj,hlt,.inl hb,?_⟩
 rw [if_pos rfl]
 exact opw_call (R:=R) h1 h2 h3 (by rw [hargs];exact hc) hR
theorem own_src {tU8:Nat} {w:World} {B:Nat} {dv:Value} {xs:Bytes} (h:Own tU8 w B dv xs):∃ S base cap,dv=.slice base xs.length cap/\SrcAt w S base xs/\∀ sb,S=some sb->B<=sb/\sb < w.heap.size:=by
 obtain ⟨ho1,⟨e1,e2⟩ | ⟨g,c3,cur,e1,e2,e3,e4,e5,e6,e7⟩⟩:=h
 ·have hnil:xs=[]:=List.length_eq_zero_iff.1 e2
  subst hnil
  exact ⟨none,none,0,e1,⟨rfl,rfl⟩,fun sb h=>by cases h⟩
 ·refine ⟨some g,some ⟨g,0,none⟩,c3,e1,⟨0,rfl,fun j u hu=>?_⟩,fun sb h=>by cases h;exact ⟨e2,(Array.getElem?_eq_some_iff.1 e3).1⟩⟩
  rw [cell_of_row _ _ _ _ _ _ e3,Nat.zero_add]
  have hj:(cellsOf xs)[j]?=some (cell u):=by simp [cellsOf,hu]
  rw [<- e7,List.getElem?_take] at hj
  split at hj
  ·rwa [Array.getElem?_toList] at hj
  ·cases hj
end
end Go.Proofs.YtdnpafdgglpagaaGreatDoor.K
namespace Go.Proofs.YtdnpafdgglpagaaGreatDoor.K
open Go Go.RowKit Go.Proofs.YtdnpafdgglpagaaGreatDoor.T
attribute [local simp] eTm eCo pNo gTp gTn qv qcall vop iop
set_option linter.unusedVariables false
set_option linter.unusedSimpArgs false
set_option maxHeartbeats 4000000
def sc_Each1 (T0 T1:Nat):SC:=.seq (.reg [⟨some 5,.assign (.const (.bool false)),none⟩]) (.seq (.dreg [ld 6 T0 2,mv 7 0,⟨some 8,.indexAddr T0 (.tmp 6) (.tmp 7),none⟩,ld 9 T1 8,ld 10 T0 2,mv 11 1,⟨some 12,.indexAddr T0 (.tmp 10) (.tmp 11),none⟩,ld 13 T1 12,⟨some 14,.binOp .lss T1 (.tmp 9) (.tmp 13) T1,none⟩,asg 5 14] [[],[],[0,1],[2],[],[],[4,5],[6],[3,7],[8,0,1,2,3,4,5,6,7,8]]) (.ret))
def sc_AppendEach1 (T0 T1 T2 F0:Nat):SC:=.seq (.reg [ld 5 T0 2,mv 6 0,cal 7 F0 [5,6],⟨none,.store T0 (.tmp 2) (.tmp 7),none⟩]) (.seq (.reg [ld 8 T0 2,mv 9 1,lenOp 10 T0 9,⟨some 11,.convert T1 T2 (.tmp 10),none⟩,cal 12 F0 [8,11],⟨none,.store T0 (.tmp 2) (.tmp 12),none⟩]) (.reg [ld 13 T0 2,mv 14 1,⟨some 15,.call ⟨.builtin .append,#[(.tmp 13),(.tmp 14)],#[T0,T0]⟩,none⟩,⟨none,.store T0 (.tmp 2) (.tmp 15),none⟩]))
section
variable {P:Program} {f:FuncId} {fn:Func}
theorem less_ok {T0 T1:Nat} (hm:P.follows .mixedOrders=true) (h0:oneB P T0=true) (hs0:sliceN P T0=some 1) (h1:oneB P T1=true) (hf:P.funcs[f]?=some fn) (hb:fn.body.map strip=some (sc_Each1 T0 T1)) (hn:fn.ntmps=15) (hr:fn.results=#[.tmp 5])
  (w:World) (q blk n cap i j x y:Nat) (hq:w.cell? ⟨q,0,none⟩=some (.slice (some ⟨blk,0,none⟩) n cap)) (hqs:q < w.heap.size) (hbs:blk < w.heap.size) (hi:i < n) (hj:j < n) (hx:w.cell? ⟨blk,i,none⟩=some (.int .u32 (x:Int))) (hy:w.cell? ⟨blk,j,none⟩=some (.int .u32 (y:Int))) :
  Calls P f #[.int .i64 (i:Int),.int .i64 (j:Int),.pointer (some ⟨q,0,none⟩)] w fun e w'=>e=.returned (.bool (decide (x < y)))/\w'=w.drew:=by
 refine fCa hf hb hn (by simp) fun a0 hs hd ha=>?_
 have k0:=ha 0 _ rfl
 have k1:=ha 1 _ rfl
 have k2:=ha 2 _ rfl
 simp only [List.getElem_toArray,List.getElem_cons_zero,List.getElem_cons_succ] at k0 k1 k2
 have hq':w.drew.cell? ⟨q,0,none⟩=some (.slice (some ⟨blk,0,none⟩) n cap):=hq
 have hx':w.drew.cell? ⟨blk,i,none⟩=some (.int .u32 (x:Int)):=hx
 have hy':w.drew.cell? ⟨blk,j,none⟩=some (.int .u32 (y:Int)):=hy
 have ei:(0:Int)<=(i:Int)/\(i:Int) < (n:Int):=by omega
 have ej:(0:Int)<=(j:Int)/\(j:Int) < (n:Int):=by omega
 refine wSq (wRg ?_)
 repeat (apply ops_1;(focus (simp (disch:=(try simp only [sPu]);omega) ;try rfl)))
 refine oNi (wSq (wDr hm (Below w.heap.size w.drew) [(0,true),(1,true),(2,true),(3,true),(4,true),(5,true),(6,true),(7,true),(8,true),(9,true)] (by rfl) (by rfl) (by decide) (Below.refl _ _) ?_))
 repeat (apply dr_1;(focus rfl);(focus (simp (disch:=(try simp only [sPu]);omega) [h0,hs0,h1,k0,k1,k2,hq',hqs,hbs,ei,ej,hx',hy',hi,hj];try rfl)))
 refine dreg_nil ?_
 simp only [Exit.then]
 refine wRt (ret_tmp hr (by simp [dPu,hd]) ⟨?_,rfl⟩)
 simp (disch:=(try simp only [sPu]);omega)
structure Turns (c:Nat) (dv dv':Value) (w w':World):Prop where
 os:w'.os=w.os
 tape:w'.tape=w.tape
 output:w'.output=w.output
 size:w.heap.size<=w'.heap.size
 block:∀ j,j < w.heap.size->j ≠ c->some j ≠ dv.ownBlock->w'.heap[j]?=w.heap[j]?
 own:dv'.ownBlock=dv.ownBlock∨∃ b,dv'.ownBlock=some b/\w.heap.size<=b
theorem Turns.refl (c:Nat) (dv:Value) (w:World):Turns c dv dv w w:=⟨rfl,rfl,rfl,Nat.le_refl _,fun _ _ _ _=>rfl,.inl rfl⟩
theorem Turns.trans {c:Nat} {d1 d2 d3:Value} {w1 w2 w3:World} (h:Turns c d1 d2 w1 w2) (h':Turns c d2 d3 w2 w3):Turns c d1 d3 w1 w3:=by
 have hs:=h.size
 refine ⟨h'.os.trans h.os,h'.tape.trans h.tape,h'.output.trans h.output,Nat.le_trans h.size h'.size,fun k hk hc hne=>?_,?_⟩
 ·rw [h'.block k (by omega) hc ?_]
  ·exact h.block k hk hc hne
  ·rcases h.own with e | ⟨b,e,hb⟩
   ·rw [e];exact hne
   ·rw [e];intro e2;cases e2;omega
 ·rcases h'.own with e | ⟨b,e,hb⟩
  ·rcases h.own with e2 | ⟨b,e2,hb⟩
   ·exact .inl (e.trans e2)
   ·exact .inr ⟨b,e.trans e2,hb⟩
  ·exact .inr ⟨b,e,by omega⟩
theorem Turns.of {B c:Nat} {d d':Value} {w w1:World} {cs:Array Value} (h:BelG B d d' w w1):Turns c d d' w (w1.setRow c cs):=by
 obtain ⟨h1,h2,h3⟩:=h
 exact ⟨h1.os,h1.tape,h1.output,by simpa using h1.size,fun j hj hc hne=>by rw [setRow_other _ _ _ _ hc];exact h2 j hj hne,h3⟩
theorem own_row {tU8:Nat} {w:World} {B c:Nat} {v:Value} {xs:Bytes} {cs:Array Value} (h:Own tU8 w B v xs) (hne:v.ownBlock ≠ some c):Own tU8 (w.setRow c cs) B v xs:=by
 refine ⟨h.1,h.2.imp id ?_⟩
 rintro ⟨g,cap,cur,h1,h2,h3,h4⟩
 refine ⟨g,cap,cur,h1,h2,?_,h4⟩
 rw [setRow_other]
 ·exact h3
 ·intro e;subst e;exact hne (by rw [h1];rfl)
theorem own_ltB {tU8:Nat} {w:World} {B b:Nat} {v:Value} {xs:Bytes} (h:Own tU8 w B v xs) (hb:v.ownBlock=some b):B<=b/\b < w.heap.size:=h.lt b hb
theorem own_one {tU8:Nat} {w:World} {B:Nat} {dv:Value} {xs:Bytes} (h:Own tU8 w B dv xs):dv.oneCell'=true:=by rcases h.2 with ⟨rfl,_⟩ | ⟨g,cap,cur,rfl,_⟩ <;> rfl
theorem bytesAt_turns {w w':World} {B c:Nat} {dv dv':Value} {base:Option Addr} {bs:Bytes} (h:BytesAt w (· < B) base bs) (hB:B<=w.heap.size) (hc:B<=c) (hd:∀ b,dv.ownBlock=some b->B<=b) (ht:Turns c dv dv' w w'):BytesAt w' (· < B) base bs :=
 bytesAt_mono h (fun _ h=>h) fun k hk=>ht.block k (by omega) (by omega) fun e=>by have:=hd k e.symm;omega
theorem cl_ok {T0 T1 T2 F0 tU8:Nat} (hT:u8sB P T0 tU8=true) (h0:oneB P T0=true) (hs0:sliceN P T0=some 1) (h1k:intK P T1=some .i64) (h2k:intK P T2=some .u32) (cU:∀ n:Nat,n < 4294967296->AP2 P tU8 F0 #[.int .u32 (n:Int)] (uvarint n))
  (hf:P.funcs[f]?=some fn) (hb:fn.body.map strip=some (sc_AppendEach1 T0 T1 T2 F0)) (hn:fn.ntmps=16) (hr:fn.results=#[])
  (w:World) (B c k cap:Nat) (dv:Value) (xs bs:Bytes) (base:Option Addr) (ho:Own tU8 w B dv xs) (hne:dv.ownBlock ≠ some c) (hc:w.heap[c]?=some (.cells #[dv] T0 (0,0))) (hBc:B<=c) (hk:k < 4294967296) (hbs:BytesAt w (· < B) base bs) (hm:bs.length<=most) (hl:xs.length+(wTag (k,bs)).length<=lim) :
  Calls P f #[.int .u32 (k:Int),.slice base bs.length cap,.pointer (some ⟨c,0,none⟩)] w fun e w'=>e=.returned (.tuple #[])/\∃ dv',w'.heap[c]?=some (.cells #[dv'] T0 (0,0))/\Own tU8 w' B dv' (xs ++ wTag (k,bs))/\dv'.ownBlock ≠ some c/\Turns c dv dv' w w':=by
 have hmost:most=32767:=rfl
 have hcs:c < w.heap.size:=(Array.getElem?_eq_some_iff.1 hc).1
 have hwt:wTag (k,bs)=uvarint k ++ uvarint bs.length ++ bs:=by simp only [wTag,whole_of hm]
 rw [hwt] at hl ⊢
 simp only [List.length_append] at hl
 have hcell:∀ {w:World} {v:Value},w.heap[c]?=some (.cells #[v] T0 (0,0))->w.cell? ⟨c,0,none⟩=some v:=fun h=>by rw [cell_of_row _ _ _ _ _ _ h];rfl
 have ownNe:∀ {d d':Value} {w1 w2:World},BelG B d d' w1 w2->d.ownBlock ≠ some c->c < w1.heap.size->d'.ownBlock ≠ some c:=fun h h1 h2=>by
  rcases h.2.2 with e | ⟨b,e,hb⟩
  ·rw [e];exact h1
  ·rw [e];intro e2;cases e2;omega
 refine fCa hf hb hn (by simp) fun a0 hs hd ha=>?_
 have k0:=ha 0 _ rfl
 have k1:=ha 1 _ rfl
 have k2:=ha 2 _ rfl
 simp only [List.getElem_toArray,List.getElem_cons_zero,List.getElem_cons_succ] at k0 k1 k2
 have hc0:=hcell hc
 refine wSq (wRg ?_)
 iterate 2 (apply ops_1;(focus (simp (disch:=(try simp only [sPu]);omega) [h0,k0,k2,hc0];try rfl)))
 refine ops_call (cU k hk).1 ((cU k hk).2 w B dv xs ho (by omega) (by omega)) (by simp (disch:=(try simp only [sPu]);omega) [k0]) ?_
 rintro e w1 ⟨d1,rfl,o1,g1,hs1⟩
 refine ⟨_,rfl,?_⟩
 have n1:=ownNe g1 hne hcs
 have hc1:w1.heap[c]?=some (.cells #[dv] T0 (0,0)):=by rw [g1.2.1 c hcs fun e=>hne e.symm];exact hc
 refine ops_stR (b:=c) (i:=0) (cs:=#[dv]) (v:=d1) h0 (by simp (disch:=(try simp only [sPu]);omega) [k2]) (by simp (disch:=(try simp only [sPu]);omega)) (own_one o1) hc1 (by simp) ?_
 have t1:Turns c dv d1 w (w1.setRow c (#[dv].setIfInBounds 0 d1)):=Turns.of g1
 have hr1:(w1.setRow c (#[dv].setIfInBounds 0 d1)).heap[c]?=some (.cells #[d1] T0 (0,0)):=setRow_heap _ _ _ _ _ _ hc1
 have o1':Own tU8 (w1.setRow c (#[dv].setIfInBounds 0 d1)) B d1 (xs ++ uvarint k):=own_row o1 n1
 generalize w1.setRow c (#[dv].setIfInBounds 0 d1)=w2 at t1 hr1 o1' ⊢
 refine oNi ?_
 simp only [Exit.then]
 have hc2:=hcell hr1
 have hcs2:c < w2.heap.size:=(Array.getElem?_eq_some_iff.1 hr1).1
 have hw32:IntKind.u32.wrap (bs.length:Int)=(bs.length:Int):=by
  rw [wrap_u32];omega
 refine wSq (wRg ?_)
 iterate 4 (apply ops_1;(focus (simp (disch:=(try simp only [sPu]);omega) [h0,k1,k2,hc2,hs0,h1k,h2k,hw32];try rfl)))
 refine ops_call (cU bs.length (by omega)).1 ((cU bs.length (by omega)).2 w2 B d1 (xs ++ uvarint k) o1' (by have:=t1.size;omega) (by rw [List.length_append];omega)) (by simp (disch:=(try simp only [sPu]);omega)) ?_
 rintro e w3 ⟨d3,rfl,o3,g3,hs3⟩
 refine ⟨_,rfl,?_⟩
 have n3:=ownNe g3 n1 hcs2
 have hc3:w3.heap[c]?=some (.cells #[d1] T0 (0,0)):=by rw [g3.2.1 c hcs2 fun e=>n1 e.symm];exact hr1
 refine ops_stR (b:=c) (i:=0) (cs:=#[d1]) (v:=d3) h0 (by simp (disch:=(try simp only [sPu]);omega) [k2]) (by simp (disch:=(try simp only [sPu]);omega)) (own_one o3) hc3 (by simp) ?_
 have t3:Turns c d1 d3 w2 (w3.setRow c (#[d1].setIfInBounds 0 d3)):=Turns.of g3
 have hr3:(w3.setRow c (#[d1].setIfInBounds 0 d3)).heap[c]?=some (.cells #[d3] T0 (0,0)):=setRow_heap _ _ _ _ _ _ hc3
 have o3':Own tU8 (w3.setRow c (#[d1].setIfInBounds 0 d3)) B d3 ((xs ++ uvarint k) ++ uvarint bs.length):=own_row o3 n3
 generalize w3.setRow c (#[d1].setIfInBounds 0 d3)=w4 at t3 hr3 o3' ⊢
 refine oNi ?_
 simp only [Exit.then]
 have t4:=t1.trans t3
 have hc4:=hcell hr3
 have hcs4:c < w4.heap.size:=(Array.getElem?_eq_some_iff.1 hr3).1
 have hbs4:BytesAt w4 (· < B) base bs:=bytesAt_turns hbs (by omega) hBc (fun b hb=>(own_ltB ho hb).1) t4
 obtain ⟨hu,i,hi,hz,hsz1,hby⟩:=u8s_of hT
 have hlim:lim=4294967295:=rfl
 refine wRg ?_
 iterate 2 (apply ops_1;(focus (simp (disch:=(try simp only [sPu]);omega) [h0,k1,k2,hc4];try rfl)))
 refine oNo rfl (opw_of fun o next Q hd2 hop hnn=>?_)
 obtain ⟨d5,w5,hrun,hown,hgr,hob⟩:=run_append_src2 (P:=P) w4 B T0 T0 o.type tU8 i (.int .u8 0) 1 1 hu hi hz hsz1 hby rfl (by decide) d3 _ (cellsOf ((xs ++ uvarint k) ++ uvarint bs.length)) o3' (.slice base bs.length cap) bs.length (cellsOf bs) (src_bytes hT hbs4 cap) (by simp only [maxLen,List.length_append];omega) (by simp only [List.length_append];omega) (by have:=t4.size;omega)
 have hop':o.op=.call ⟨.builtin .append,#[.tmp 13,.tmp 14],#[T0,T0]⟩:=stripOp_eq (by simp) hop
 have o5:Own tU8 w5 B d5 (((xs ++ uvarint k) ++ uvarint bs.length) ++ bs):=by
  unfold Own
  rw [cellsOf_append,List.length_append]
  exact hown
 have g5:BelG B d3 d5 w4 w5:=⟨(Below.refl B w4).grown hgr (by have:=t4.size;omega) (fun k hk=>own_u8 o3' k hk),hgr.block,hob⟩
 have hrun2:∀ av:Operand->Value,av (.tmp 13)=d3->av (.tmp 14)=.slice base bs.length cap->(execOp av o).run P w4=.ok (.value d5) w5:=by
  intro av e1 e2
  simp [execOp,hop',resolve,invoke,builtin,e1,e2,hrun]
 rw [hrun2 _ (by simp (disch:=(try simp only [sPu]);omega)) (by simp (disch:=(try simp only [sPu]);omega) [k1]),Oper.upon_value,hd2]
 refine hnn _ _ ?_
 have n5:=ownNe g5 n3 hcs4
 have hc5:w5.heap[c]?=some (.cells #[d3] T0 (0,0)):=by rw [g5.2.1 c hcs4 fun e=>n3 e.symm];exact hr3
 refine ops_stR (b:=c) (i:=0) (cs:=#[d3]) (v:=d5) h0 (by simp (disch:=(try simp only [sPu]);omega) [k2]) (by simp (disch:=(try simp only [sPu]);omega)) (own_one o5) hc5 (by simp) ?_
 have t5:Turns c d3 d5 w4 (w5.setRow c (#[d3].setIfInBounds 0 d5)):=Turns.of g5
 have hr5:(w5.setRow c (#[d3].setIfInBounds 0 d5)).heap[c]?=some (.cells #[d5] T0 (0,0)):=setRow_heap _ _ _ _ _ _ hc5
 have o5':Own tU8 (w5.setRow c (#[d3].setIfInBounds 0 d5)) B d5 (((xs ++ uvarint k) ++ uvarint bs.length) ++ bs):=own_row o5 n5
 refine oNi ?_
 refine bodyPost_end (v:=.tuple #[]) ?_ (by simp [dPu,hd]) ⟨rfl,d5,hr5,by simpa [List.append_assoc] using o5',n5,t4.trans t5⟩
 simp [results,hr]
variable {a:Act} {w:World} {K:Act->World->Prop} {d:Option Tmp} {g:Option (Nat × Bool)}
theorem opw_range {T r clock:Nat} {k e:TypeId} {x:Operand} {es:Array MapEntry} (hT:P.underlying T=some (.map k e)) (hx:a.eval x=.map (some r)) (hr:w.heap[r]?=some (.map es clock))
  (h:K (a.put d (.pointer (some ⟨w.heap.size,0,none⟩))) (w.alloc (.mapIter (some r) clock #[] clock))):opw P ⟨d,.range T x,g⟩ a w K :=
 oVa (by simp) (fun o ho=>by simp [execOp,ho,hx,run_range_map w T k e r es clock hT hr]) h
theorem opw_next {it r since c0 clock:Nat} {seen:Array Nat} {es:Array MapEntry} {x:Operand} (hx:a.eval x=.pointer (some ⟨it,0,none⟩)) (hi:w.heap[it]?=some (.mapIter (some r) since seen c0)) (hr:w.heap[r]?=some (.map es clock)) (hold:∀ x ∈ es.toList,x.born < since) (hsc:since<=c0)
  (h0:(leftOf es seen).size=0->K (a.put d (.tuple #[.bool false])) w)
  (h1:∀ e ∈ (leftOf es seen).toList,∀ w1:World,(w1=w∨w1=w.drew)->K (a.put d (.tuple #[.bool true,e.key,e.val])) (ChangeMaps.setBlock w1 it (.mapIter (some r) since (seen.push e.born) clock))):opw P ⟨d,.next x false,g⟩ a w K:=by
 refine opw_of fun o next Q hd hop hn=>?_
 have hop':=stripOp_eq (by simp) hop
 rcases run_next_at (P:=P) w o.type it r since c0 seen es clock hi hr hold hsc with ⟨h2,h3⟩ | ⟨e,he,w1,h2,h3⟩
 ·rw [show (execOp a.eval o).run P w=.ok (.value (.tuple #[.bool false])) w by simp [execOp,hop',hx,h3],Oper.upon_value,hd]
  exact hn _ _ (h0 h2)
 ·rw [show (execOp a.eval o).run P w=.ok (.value (.tuple #[.bool true,e.key,e.val])) (ChangeMaps.setBlock w1 it (.mapIter (some r) since (seen.push e.born) clock)) by simp [execOp,hop',hx,h3],Oper.upon_value,hd]
  exact hn _ _ (h1 e he w1 h2)
theorem opw_entry {it r since clock:Nat} {seen:Array Nat} {es:Array MapEntry} {e:MapEntry} {x:Operand} (hx:a.eval x=.pointer (some ⟨it,0,none⟩)) (hi:w.heap[it]?=some (.mapIter (some r) since (seen.push e.born) clock)) (hr:w.heap[r]?=some (.map es clock)) (he:e ∈ es.toList) (hnd:(es.toList.map (·.born)).Nodup)
  (h:K (a.put d (.tuple #[e.key,e.val])) w):opw P ⟨d,.entry x,g⟩ a w K :=
 oVa (by simp) (fun o ho=>by simp [execOp,ho,hx,run_entry_at w it r since seen es clock e hi hr he hnd]) h
theorem opw_callv {f : FuncId} {x : Operand} {args : Array Operand} {lb argsV : Array Value} {fn : Func} {R : Ending -> World -> Prop} (hx : a.eval x = .func (.func f) #[] lb) (hf : P.funcs[f]? = some fn) (hb : fn.body.isSome = true) (hnm : (fn.name == "runtime.NumGoroutine") = false)
  (hargs:args.map a.eval ++ lb=argsV) (hc:Calls P f argsV w R) (hR:∀ e w',R e w'->∃ v,e=.returned v/\K (a.put d v) w'):opw P ⟨d,.call ⟨.value x,args,#[]⟩,g⟩ a w K:=by
 refine opw_of fun o next Q hd ho hn=>?_
 have ho':∃ t,o.op=.call ⟨.value x,args,t⟩:=by
  unfold stripOp at ho
  split at ho
  ·rename_i heq
   simp at ho
   obtain ⟨rfl,rfl⟩:=ho
   exact ⟨_,heq⟩
  ·rename_i hne
   exact absurd ho (hne _ _ _)
 obtain ⟨t,ho'⟩:=ho'
 have hr:(execOp a.eval o).run P w=.ok (.enter f argsV) w:=by
  have h0:=run_callFunc (P:=P) (w:=w) (args:=argsV) hf hb hnm
  rw [<- hargs] at h0 ⊢
  simp [execOp,ho',resolve,Deferred.ofValue,invoke,hx,h0]
 rw [hr,Oper.upon_enter]
 refine hc.mono ?_
 intro e w' hq
 obtain ⟨v,rfl,hk⟩:=hR e w' hq
 rw [hd]
 exact hn _ _ hk
theorem opw_lookup {T r k clock:Nat} {m x:Operand} {es:Array MapEntry} {F:Nat->Prop} {u:List (Nat × Bytes)} (hT:mapU P T=true) (hm:a.eval m=.map (some r)) (hx:a.eval x=.int .u32 (k:Int))
  (hr:w.heap[r]?=some (.map es clock)) (ht:TagsEs w F es clock u) {y:Nat × Bytes} (hy:y ∈ u) (hyk:y.1=k) (h:∀ base cap,BytesAt w F base y.2->K (a.put d (.slice base y.2.length cap)) w):opw P ⟨d,.lookup T m x false,g⟩ a w K:=by
 obtain ⟨-,kt,e,hu,hk⟩:=mapU_of hT
 have hik:MapKept.IsKey (.int .u32) (.int .u32 (k:Int)):=rfl
 have hks:∀ z ∈ es.toList,MapKept.IsKey (.int .u32) z.key:=fun z hz=>by
  have:z.key ∈ u.map fun x=>Value.int .u32 (x.1:Int):=ht.1.mem_iff.1 (List.mem_map_of_mem hz)
  obtain ⟨x,_,hxe⟩:=List.mem_map.1 this
  rw [<- hxe]
  rfl
 rcases MapKept.findNow_spec hik es.toList 0 hks with ⟨h1,h2⟩ | ⟨j,e0,h1,h2,h3⟩
 ·exfalso
  have:Value.int .u32 (y.1:Int) ∈ es.toList.map (·.key):=ht.1.mem_iff.2 (List.mem_map_of_mem (f:=fun x:Nat × Bytes=>Value.int .u32 (x.1:Int)) hy)
  obtain ⟨z,hz,hze⟩:=List.mem_map.1 this
  exact h2 z hz (by rw [hze,hyk])
 ·have hj:es[j]?=some e0:=by simpa using h2
  have hmem:e0 ∈ es.toList:=Array.mem_toList_iff.2 (Array.mem_of_getElem? hj)
  obtain ⟨base,cap,hv,hb⟩:=ht.2.2 e0 hmem y hy (by rw [h3,hyk])
  refine oVa (v:=.slice base y.2.length cap) (by simp) (fun p hp=>?_) (h base cap hb)
  have hj':es.toList[j]?=some e0:=by simpa using hj
  simp [execOp,hp,hm,hx,Instr.lookup,run_underlying hu,MapKept.run_getObj_map hr,MapKept.run_checkKey hk hik,MapKept.run_findKey hk h1,Result.andThen,hj,hv]
end
set_option maxHeartbeats 8000000
def sc_TEach (T0 T1 T2 T3 T4 F0 CL:Nat):SC:=.seq (.seq (.reg [mv 8 0,nilc 9 8,fa 10 T0 9 0,ld 11 T1 10,lenOp 12 T1 11,⟨some 13,.binOp .eql T2 (.tmp 12) (.const (.int .i64 0)) T2,none⟩]) (.cond (.tmp 13) (.ret) (.skip))) (.seq (.reg [mv 14 0,nilc 15 14,fa 16 T0 15 0,ld 17 T1 16,lenOp 18 T1 17,⟨some 19,.makeSlice T3 (.const (.int .i64 0)) (.tmp 18),none⟩,⟨some 4,.alloc T3,none⟩,⟨none,.store T3 (.tmp 4) (.tmp 19),none⟩]) (.seq (.seq (.reg [mv 20 0,nilc 21 20,fa 22 T0 21 0,ld 23 T1 22,⟨some 24,.range T1 (.tmp 23),none⟩]) (.block 0 (.loop (.seq (.reg [⟨some 25,.next (.tmp 24) false,none⟩,⟨some 26,.extract (.tmp 25) 0,none⟩]) (.seq (.cond (.tmp 26) (.skip) (.exit 0)) (.block 1 (.seq (.reg [⟨some 27,.entry (.tmp 24),none⟩,⟨some 28,.extract (.tmp 27) 0,none⟩,asg 5 28]) (.reg [ld 29 T3 4,mv 30 5,⟨some 31,.buildSlice T3 1 #[(0,(.tmp 30))],none⟩,⟨some 32,.call ⟨.builtin .append,#[(.tmp 29),(.tmp 31)],#[T3,T3]⟩,none⟩,⟨none,.store T3 (.tmp 4) (.tmp 32),none⟩])))))))) (.seq (.reg [ld 33 T3 4,⟨some 34,.makeInterface T3 (.tmp 33),none⟩,⟨some 35,.makeFunc (.func CL) #[] #[(.tmp 4)],none⟩,cal 36 F0 [34,35]]) (.seq (.reg [ld 37 T3 4,lenOp 38 T3 37,⟨some 39,.move (.const (.int .i64 0)),none⟩]) (.block 2 (.loop (.seq (.reg [⟨some 40,.binOp .lss T2 (.tmp 39) (.tmp 38) T2,none⟩]) (.seq (.cond (.tmp 40) (.skip) (.exit 2)) (.seq (.block 3 (.seq (.reg [⟨some 41,.indexAddr T3 (.tmp 37) (.tmp 39),none⟩,ld 42 T4 41,asg 7 42]) (.reg [mv 43 1,mv 44 7,mv 45 0,nilc 46 45,fa 47 T0 46 0,ld 48 T1 47,mv 49 7,⟨some 50,.lookup T1 (.tmp 48) (.tmp 49) false,none⟩,⟨some 51,.call ⟨.value (.tmp 43),#[(.tmp 44),(.tmp 50)],#[]⟩,none⟩]))) (.reg [⟨some 52,.binOp .add T2 (.tmp 39) (.const (.int .i64 1)) T2,none⟩,mv 39 52]))))))))))
abbrev encK (k:Nat):Value:=.int .u32 (k:Int)
def SortC (P:Program) (FS CL TU T32:Nat):Prop:=FnOK P FS/\∀ (w:World) (B q blk cap:Nat) (ks:List Nat),q ≠ blk->q < w.heap.size->w.heap[q]?=some (.cells #[.slice (some ⟨blk,0,none⟩) ks.length cap] TU (0,0))->w.ownsRow B T32 1 (.slice (some ⟨blk,0,none⟩) ks.length cap) ks.length (ks.map encK)->ks.length<=32767 ->
 Calls P FS #[.iface TU (.slice (some ⟨blk,0,none⟩) ks.length cap),.func (.func CL) #[] #[.pointer (some ⟨q,0,none⟩)]] w fun e w'=>e=.returned (.tuple #[])/\w'.os=w.os/\w'.tape=w.tape/\w'.output=w.output/\w.heap.size<=w'.heap.size/\(∀ j,j < w.heap.size->j ≠ blk->w'.heap[j]?=w.heap[j]?) /\
  ∃ ks':List Nat,ks'.Perm ks/\ks'.Pairwise (·<=·)/\∀ i k,ks'[i]?=some k->w'.cell? ⟨blk,i,none⟩=some (encK k)
theorem perm_sorted:∀ (l2 l1:List Nat),l1.Perm l2->l1.Pairwise (·<=·)->l2.Pairwise (· < ·)->l1=l2
 | [],l1,h,_,_=>List.Perm.eq_nil h
 | y :: r2,[],h,_,_=>absurd h.length_eq (by simp)
 | y :: r2,x :: r1,h,h1,h2=>by
  have p1:=List.pairwise_cons.1 h1
  have p2:=List.pairwise_cons.1 h2
  have hxy:y<=x:=by
   rcases List.mem_cons.1 (h.mem_iff.1 (.head _)) with e | hm
   ·omega
   ·exact Nat.le_of_lt (p2.1 x hm)
  have hyx:x<=y:=by
   rcases List.mem_cons.1 (h.mem_iff.2 (List.mem_cons_self:y ∈ y :: r2)) with e | hm
   ·omega
   ·exact p1.1 y hm
  obtain rfl:x=y:=by omega
  rw [perm_sorted r2 r1 h.cons_inv p1.2 p2.2]
theorem left_perm {es:Array MapEntry} {seen:Array Nat} {e:MapEntry} (hn:(es.toList.map (·.born)).Nodup) (he:e ∈ (leftOf es seen).toList):(leftOf es seen).toList.Perm (e :: (leftOf es (seen.push e.born)).toList):=by
 have key:∀ (l:List MapEntry),(l.map (·.born)).Nodup->e ∈ l.filter (fun x=>!seen.contains x.born)->(l.filter fun x=>!seen.contains x.born).Perm (e :: l.filter fun x=>!(seen.push e.born).contains x.born):=by
  intro l
  induction l with
  | nil=>intro _ h;simp at h
  | cons x r ih =>
   intro hn h
   have hn':=List.nodup_cons.1 (by simpa using hn:(x.born :: r.map (·.born)).Nodup)
   by_cases hx:x=e
   ·subst hx
    have hs:seen.contains x.born=false:=by
     have:=(List.mem_filter.1 h).2
     simpa using this
    have hr:(r.filter fun y=>!seen.contains y.born)=r.filter fun y=>!(seen.push x.born).contains y.born:=by
     refine List.filter_congr fun y hy=>?_
     rw [contains_push]
     have:(y.born == x.born)=false:=by
      cases hc:y.born == x.born with
      | false=>rfl
      | true=>exact absurd (by rw [<- beq_iff_eq.1 hc];exact List.mem_map_of_mem hy) hn'.1
     rw [this,Bool.or_false]
    have c2:(seen.push x.born).contains x.born=true:=by rw [contains_push];simp
    rw [List.filter_cons,List.filter_cons,hs,c2]
    simp only [Bool.not_false,if_true,Bool.not_true,Bool.false_eq_true,if_false]
    rw [hr]
   ·have hmem:e ∈ r.filter fun y=>!seen.contains y.born:=by
     have h1:=List.mem_filter.1 h
     refine List.mem_filter.2 ⟨?_,h1.2⟩
     rcases List.mem_cons.1 h1.1 with e1 | h2
     ·exact absurd e1.symm hx
     ·exact h2
    have hne:(x.born == e.born)=false:=by
     cases hc:x.born == e.born with
     | false=>rfl
     | true=>exact absurd (by rw [beq_iff_eq.1 hc];exact List.mem_map_of_mem (List.mem_filter.1 hmem).1) hn'.1
    have hi:=ih hn'.2 hmem
    rw [List.filter_cons,List.filter_cons,contains_push,hne,Bool.or_false]
    cases seen.contains x.born
    ·simp only [Bool.not_false,if_true]
     exact (hi.cons x).trans (List.Perm.swap _ _ _)
    ·simp only [Bool.not_true,Bool.false_eq_true,if_false]
     exact hi
 have e1:∀ s:Array Nat,(leftOf es s).toList=es.toList.filter fun x=>!s.contains x.born:=fun s=>by unfold leftOf;rw [Array.toList_filter]
 rw [e1] at he
 rw [e1,e1]
 exact key es.toList hn he
theorem left_none (es:Array MapEntry):(leftOf es #[]).toList=es.toList:=by
 unfold leftOf
 rw [Array.toList_filter]
 exact List.filter_eq_self.2 fun x _=>by simp
section
variable {P:Program} {a:Act} {w:World} {K:Act->World->Prop} {d:Option Tmp} {g:Option (Nat × Bool)}
theorem opw_make0 {T E n:Nat} {x y:Operand} {i:TypeInfo} {z:Value} {k k':IntKind} (hT:P.underlying T=some (.slice E)) (hi:P.info? E=some i) (hz:i.zero=some z) (hs:i.size=1) (hby:i.bytes<=1000) (hx:a.eval x=.int k 0) (hy:a.eval y=.int k' (n:Int)) (hn:n<=100000)
  (h:K (a.put d (.slice (some ⟨w.heap.size,0,none⟩) 0 n)) (w.alloc (.cells (madeCells z.cells n) E))):opw P ⟨d,.makeSlice T x y,g⟩ a w K:=by
 have hb:(i.bytes:Int) * (n:Int)<=281474976710656:=by
  have:i.bytes * n<=1000 * 100000:=Nat.mul_le_mul hby hn
  rw [<- Int.natCast_mul]
  omega
 have hr:=run_make (P:=P) w T E i z hT hi hz k k' 0 n (Int.le_refl _) (by omega) hb (by omega)
 simp only [Int.toNat_natCast,Int.toNat_zero,hs,Nat.mul_one] at hr
 refine oVa (by simp) (fun p hp=>?_) h
 simp only [execOp,hp,hx,hy]
 simp [hr]
theorem opw_build1 {T E:Nat} {x:Operand} {i:TypeInfo} {z v:Value} (hT:P.underlying T=some (.slice E)) (hi:P.info? E=some i) (hz:i.zero=some z) (hs:i.size=1) (hx:a.eval x=v) (hv:v.oneCell'=true)
  (h:K (a.put d (.slice (some ⟨w.heap.size,0,none⟩) 1 1)) (w.alloc (.cells #[v] E))):opw P ⟨d,.buildSlice T 1 #[(0,x)],g⟩ a w K:=by
 refine oVa (by simp) (fun p hp=>?_) h
 have hr:=run_buildSlice (P:=P) w T E 1 #[(0,v)] #[v] i z hT hi hz (by rw [hs];decide) (by rw [hs];decide) (by
  rw [hs]
  have hz1:∀ (zf:Nat->Value),(Array.range (1 * 1)).map zf=#[zf 0]:=fun zf=>Array.ext' (by simp [Array.toList_map,Array.toList_range,List.range,List.range.loop])
  rw [hz1]
  simp [Instr.fill,cells_oneCell hv])
 simp only [execOp,hp]
 simp [hx,hr]
theorem opw_append32 {T E B:Nat} {x y:Operand} {i:TypeInfo} {z lv:Value} {ts:Array TypeId} {ks:List Nat} {k b:Nat} (hT:P.underlying T=some (.slice E)) (hi:P.info? E=some i) (hz:i.zero=some z) (hzc:z.cells.size=1) (hs:i.size=1) (hby:i.bytes<=1000) (hts:ts=#[T,T]) (hx:a.eval x=lv) (hy:a.eval y=.slice (some ⟨b,0,none⟩) 1 1)
  (ho:w.ownsRow B E 1 lv ks.length (ks.map encK)) (hB:B<=w.heap.size) (hlen:ks.length<=100000) (hc:w.cell? ⟨b,0,none⟩=some (encK k))
  (h:∀ lv' w',w'.ownsRow B E 1 lv' (ks ++ [k]).length ((ks ++ [k]).map encK)->w.grownBy w' lv.ownBlock->(lv'.ownBlock=lv.ownBlock∨∃ b,lv'.ownBlock=some b/\w.heap.size<=b)->K (a.put d lv') w'):opw P ⟨d,.call ⟨.builtin .append,#[x,y],ts⟩,g⟩ a w K:=by
 subst hts
 have hb:(ks.length+1) * i.bytes<=140737488355328:=Nat.le_trans (Nat.mul_le_mul (show ks.length+1<=100001 by omega) hby) (by decide)
 refine opw_of fun o next Q hd hop hn=>?_
 obtain ⟨v',w',hr,h2,h3,h4⟩:=run_append_src2 (P:=P) w B T T o.type E i z 1 i.bytes hT hi hz hs rfl hzc (by decide) lv ks.length (ks.map encK) ho (.slice (some ⟨b,0,none⟩) 1 1) 1 [encK k] (Src.ofSlice w hT ⟨b,0,none⟩ 1 1 [encK k] rfl (fun j u hj=>by
  cases j with
  | zero=>simp at hj;subst hj;rw [add_none];exact hc
  | succ j=>simp at hj) (by intro v hv;simp at hv;subst hv;rfl)) (by simp only [maxLen];omega) hb hB
 have hop':o.op=.call ⟨.builtin .append,#[x,y],#[T,T]⟩:=stripOp_eq (by simp) hop
 have hr':(execOp a.eval o).run P w=.ok (.value v') w':=by
  simp [execOp,hop',resolve,invoke,builtin,hx,hy,hr]
 rw [hr',Oper.upon_value,hd]
 refine hn _ _ (h v' w' ?_ h3 h4)
 rw [List.length_append,List.map_append]
 exact h2
theorem opw_iface {T E:Nat} {x:Operand} {v:Value} (hT:P.underlying T=some (.slice E)) (hx:a.eval x=v) (h:K (a.put d (.iface T v)) w):opw P ⟨d,.makeInterface T x,g⟩ a w K :=
 oVa (by simp) (fun o ho=>by simp [execOp,ho,hx,Instr.makeInterface,run_underlying hT]) h
theorem opw_mkFunc {CL:Nat} {x:Operand} {v:Value} (hx:a.eval x=v) (h:K (a.put d (.func (.func CL) #[] #[v])) w):opw P ⟨d,.makeFunc (.func CL) #[] #[x],g⟩ a w K :=
 oVa (by simp) (fun o ho=>by simp [execOp,ho,hx,Instr.makeFunc]) h
end
structure EL (TU T32:Nat) (w:World) (q it r clock:Nat) (es:Array MapEntry) (v0 v1:Value) (seen:Array Nat) (ks:List Nat) (lv:Value) (a:Act) (w':World):Prop where
 size:a.tmps.size=53
 defers:a.defers=[]
 s0:getT a 0=v0
 s1:getT a 1=v1
 s4:getT a 4=.pointer (some ⟨q,0,none⟩)
 s24:getT a 24=.pointer (some ⟨it,0,none⟩)
 below:Below w.heap.size w w'
 qrow:w'.heap[q]?=some (.cells #[lv] TU (0,0))
 itr:w'.heap[it]?=some (.mapIter (some r) clock seen clock)
 own:w'.ownsRow w.heap.size T32 1 lv ks.length (ks.map encK)
 ownq:lv.ownBlock ≠ some q/\lv.ownBlock ≠ some it
 perm:((leftOf es seen).toList.map (·.key) ++ ks.map encK).Perm (es.toList.map (·.key))
structure EL2 (tU8 TB:Nat) (B c n:Nat) (xs:Bytes) (u:List (Nat × Bytes)) (w5:World) (dv lv:Value) (v0 v1:Value) (i:Nat) (dvi:Value) (a:Act) (w':World):Prop where
 size:a.tmps.size=53
 defers:a.defers=[]
 s0:getT a 0=v0
 s1:getT a 1=v1
 s37:getT a 37=lv
 s38:getT a 38=.int .i64 (n:Int)
 s39:getT a 39=.int .i64 (i:Int)
 turns:Turns c dv dvi w5 w'
 crow:w'.heap[c]?=some (.cells #[dvi] TB (0,0))
 own:Own tU8 w' B dvi (xs ++ (u.take i).flatMap wTag)
 ne:dvi.ownBlock ≠ some c
theorem row_keep {w w':World} {B E n:Nat} {v:Value} {xs:List Value} (h:w.ownsRow B E 1 v n xs) (hk:∀ k,v.ownBlock=some k->w'.heap[k]?=w.heap[k]?):w'.ownsRow B E 1 v n xs:=by
 refine ⟨h.1,h.2.imp id ?_⟩
 rintro ⟨g,cap,cur,h1,h2,h3,h4⟩
 exact ⟨g,cap,cur,h1,h2,by rw [hk g (by rw [h1];rfl)];exact h3,h4⟩
theorem w64E {n:Int} (h1:-9223372036854775808<=n) (h2:n < 9223372036854775808):IntKind.i64.wrap n=n:=by rw [IntKind.wrap_i64];omega
theorem own_keepB {tU8:Nat} {w w':World} {B:Nat} {v:Value} {xs:Bytes} (h:Own tU8 w B v xs) (hk:∀ k,v.ownBlock=some k->w'.heap[k]?=w.heap[k]?):Own tU8 w' B v xs:=row_keep h hk
section
variable {P:Program} {f:FuncId} {fn:Func}
def EachC (P:Program) (tU8 TB CL2:Nat) (G:List (Nat × Bytes)->Prop) (f:FuncId):Prop:=∀ (w:World) (B b o c:Nat) (u:List (Nat × Bytes)) (dv:Value) (xs:Bytes),HTags G w (· < B) b o u->b < w.heap.size->b ≠ c->dv.ownBlock ≠ some b->Own tU8 w B dv xs->dv.ownBlock ≠ some c->w.heap[c]?=some (.cells #[dv] TB (0,0))->B<=c->xs.length+(u.flatMap wTag).length<=lim ->
 Calls P f #[.pointer (some ⟨b,o,none⟩),.func (.func CL2) #[] #[.pointer (some ⟨c,0,none⟩)]] w fun e w'=>e=.returned (.tuple #[])/\∃ dv',w'.heap[c]?=some (.cells #[dv'] TB (0,0))/\Own tU8 w' B dv' (xs ++ u.flatMap wTag)/\dv'.ownBlock ≠ some c/\Turns c dv dv' w w'
theorem each_ok {G:List (Nat × Bytes)->Prop} {TT TM TI TU T32 FS CL CL2 tU8 TB:Nat} {i32 iU:TypeInfo} {z32 zU:Value}
  (hTM:mapU P TM=true) (hF0:fieldOff P TT 0=some 0) (hTU1:oneB P TU=true) (hTUs:sliceN P TU=some 1) (hTUu:P.underlying TU=some (.slice T32)) (hT32:oneB P T32=true) (hI:P.info? T32=some i32) (hZ:i32.zero=some z32) (hZc:z32.cells=#[.int .u32 0]) (hS:i32.size=1) (hBy:i32.bytes<=1000)
  (hIU:P.info? TU=some iU) (hZU:iU.zero=some zU) (hZUc:zU.cells=#[.slice none 0 0]) (cSort:SortC P FS CL TU T32) (oCl:FnOK P CL2)
  (cCl:∀ (w:World) (B c k cap:Nat) (dv:Value) (xs bs:Bytes) (base:Option Addr),Own tU8 w B dv xs->dv.ownBlock ≠ some c->w.heap[c]?=some (.cells #[dv] TB (0,0))->B<=c->k < 4294967296->BytesAt w (· < B) base bs->bs.length<=most->xs.length+(wTag (k,bs)).length<=lim ->
   Calls P CL2 #[.int .u32 (k:Int),.slice base bs.length cap,.pointer (some ⟨c,0,none⟩)] w fun e w'=>e=.returned (.tuple #[])/\∃ dv',w'.heap[c]?=some (.cells #[dv'] TB (0,0))/\Own tU8 w' B dv' (xs ++ wTag (k,bs))/\dv'.ownBlock ≠ some c/\Turns c dv dv' w w')
  (hf:P.funcs[f]?=some fn) (hb:fn.body.map strip=some (sc_TEach TT TM TI TU T32 FS CL)) (hn:fn.ntmps=53) (hr:fn.results=#[]):EachC P tU8 TB CL2 G f:=by
 intro w B b o c u dv xs hu hbs hbc hbd ho hne hc hBc hl
 have hcs:c < w.heap.size:=(Array.getElem?_eq_some_iff.1 hc).1
 obtain ⟨v,hv,hcnt⟩:=hTags_size hu
 obtain ⟨-,huk,hum,hux,halt⟩:=hu
 have hmost:most=32767:=rfl
 have hlim:lim=4294967295:=rfl
 obtain ⟨hTM1,kT,eT,hTMu,hkT⟩:=mapU_of hTM
 have hmT:mapT P TM=true:=by unfold mapT;rw [hTMu]
 refine fCa hf hb hn (by simp) fun a0 hs hd ha=>?_
 have k0:=ha 0 _ rfl
 have k1:=ha 1 _ rfl
 simp only [List.getElem_toArray,List.getElem_cons_zero,List.getElem_cons_succ] at k0 k1
 have hlenEq:v=.map none/\u.length=0∨∃ r es clock,v=.map (some r)/\w.heap[r]?=some (.map es clock)/\es.size=u.length:=by
  rcases hcnt with ⟨e1,e2⟩ | h
  ·exact .inl ⟨e1,by rw [e2];rfl⟩
  ·exact .inr h
 refine wSq (wSq (wRg ?_))
 iterate 4 (apply ops_1;(focus (simp (disch:=(try simp only [sPu]);omega) [k0,hF0,hTM1,hv];try rfl)))
 refine oNo rfl (opw_lenMapN (v:=v) (n:=u.length) hmT (by simp (disch:=(try simp only [sPu]);omega)) rfl hlenEq ?_)
 iterate 1 (apply ops_1;(focus (simp (disch:=(try simp only [sPu]);omega) ;try rfl)))
 refine oNi ?_
 simp only [Exit.then]
 by_cases hnil:u=[]
 ·subst hnil
  refine wCd (t:=true) (by simp (disch:=(try simp only [sPu]);omega)) ?_
  rw [if_pos rfl]
  refine wRt ?_
  simp only [Exit.then]
  exact bodyPost_ret (v:=.tuple #[]) (by simp [results,hr]) (by simp [dPu,hd]) ⟨rfl,dv,hc,by simpa using ho,hne,Turns.refl _ _ _⟩
 have hpos:0 < u.length:=List.length_pos_iff.2 hnil
 have hlen0:((u.length:Int) == 0)=false:=by simp;omega
 refine wCd (t:=false) (by simp (disch:=(try simp only [sPu]);omega) [hlen0];try omega) ?_
 rw [if_neg (by simp)]
 refine wSk ?_
 simp only [Exit.then]
 rcases halt with ⟨_,e⟩ | ⟨r,es,clock,hv',hrB,hes,-,hte⟩
 ·exact absurd e hnil
 obtain rfl:v=.map (some r):=Option.some.inj (hv.symm.trans hv')
 have hsize:es.size=u.length:=by
  rcases hlenEq with ⟨e1,_⟩ | ⟨r',es',clock',e1,e2,e3⟩
  ·cases e1
  ·cases e1
   rw [hes] at e2
   cases e2
   exact e3
 have hBs:B<=w.heap.size:=by omega
 refine wSq (wRg ?_)
 iterate 4 (apply ops_1;(focus (simp (disch:=(try simp only [sPu]);omega) [k0,hF0,hTM1,hv];try rfl)))
 refine oNo rfl (opw_lenMapN (v:=.map (some r)) (n:=u.length) hmT (by simp (disch:=(try simp only [sPu]);omega)) rfl hlenEq ?_)
 refine oNo rfl (opw_make0 (k:=.i64) (k':=.i64) (n:=u.length) hTUu hI hZ hS hBy (by simp (disch:=(try simp only [sPu]);omega)) (by simp (disch:=(try simp only [sPu]);omega)) (by omega) ?_)
 refine oNo rfl (opw_alloc hIU hZU ?_)
 have hw1s:(w.alloc (.cells (madeCells z32.cells u.length) T32)).heap.size=w.heap.size+1:=by simp
 have hrow1:=heap_alloc_new w (.cells (madeCells z32.cells u.length) T32)
 have hb1:Below w.heap.size w (w.alloc (.cells (madeCells z32.cells u.length) T32)):=(Below.refl _ _).alloc (Nat.le_refl _) _
 generalize w.alloc (.cells (madeCells z32.cells u.length) T32)=w1 at hw1s hrow1 hb1 ⊢
 have hrow2:=heap_alloc_new w1 (.cells zU.cells TU)
 have hold2:(w1.alloc (.cells zU.cells TU)).heap[w.heap.size]?=w1.heap[w.heap.size]?:=Below.heap_alloc w1 _ _ (by omega)
 have hb2:Below w.heap.size w (w1.alloc (.cells zU.cells TU)):=hb1.alloc (by omega) _
 have hw2s:(w1.alloc (.cells zU.cells TU)).heap.size=w.heap.size+2:=by simp;omega
 rw [hw1s] at hrow2 ⊢
 rw [hZUc] at hrow2 hold2 hb2 hw2s ⊢
 generalize w1.alloc (.cells #[Value.slice none 0 0] TU)=w2 at hrow2 hold2 hb2 hw2s ⊢
 refine ops_stR (b:=w.heap.size+1) (i:=0) (cs:=#[.slice none 0 0]) (v:=.slice (some ⟨w.heap.size,0,none⟩) 0 u.length) hTU1 (by simp (disch:=(try simp only [sPu]);omega)) (by simp (disch:=(try simp only [sPu]);omega)) rfl hrow2 (by simp) ?_
 have hrow3:=setRow_heap w2 (w.heap.size+1) _ (#[Value.slice none 0 0].setIfInBounds 0 (.slice (some ⟨w.heap.size,0,none⟩) 0 u.length)) _ _ hrow2
 have hold3:(w2.setRow (w.heap.size+1) (#[Value.slice none 0 0].setIfInBounds 0 (.slice (some ⟨w.heap.size,0,none⟩) 0 u.length))).heap[w.heap.size]?=some (.cells (madeCells z32.cells u.length) T32 (0,0)):=by
  rw [setRow_other _ _ _ _ (by omega),hold2];exact hrow1
 have hb3:Below w.heap.size w (w2.setRow (w.heap.size+1) (#[Value.slice none 0 0].setIfInBounds 0 (.slice (some ⟨w.heap.size,0,none⟩) 0 u.length))):=below_setRow hb2 (by omega) _
 have hw3s:(w2.setRow (w.heap.size+1) (#[Value.slice none 0 0].setIfInBounds 0 (.slice (some ⟨w.heap.size,0,none⟩) 0 u.length))).heap.size=w.heap.size+2:=by simp;omega
 generalize w2.setRow (w.heap.size+1) (#[Value.slice none 0 0].setIfInBounds 0 (.slice (some ⟨w.heap.size,0,none⟩) 0 u.length))=w3 at hrow3 hold3 hb3 hw3s ⊢
 have hown3:w3.ownsRow w.heap.size T32 1 (.slice (some ⟨w.heap.size,0,none⟩) 0 u.length) 0 [] :=
  ⟨rfl,.inr ⟨w.heap.size,u.length,_,rfl,Nat.le_refl _,hold3,Nat.zero_le _,by simp only [maxLen];omega,by rw [size_madeCells,Nat.mul_one],by simp⟩⟩
 refine oNi ?_
 simp only [Exit.then]
 have hes3:w3.heap[r]?=some (.map es clock):=by rw [hb3.block r (by omega)];exact hes
 have hv3:w3.cell? ⟨b,o,none⟩=some (.map (some r)):=by rw [hb3.cell (p:=⟨b,o,none⟩) (by show b < w.heap.size;omega)];exact hv
 refine wSq (wSq (wRg ?_))
 iterate 4 (apply ops_1;(focus (simp (disch:=(try simp only [sPu]);omega) [k0,hF0,hTM1,hv3];try rfl)))
 refine oNo rfl (opw_range hTMu (by simp (disch:=(try simp only [sPu]);omega)) hes3 ?_)
 refine oNi ?_
 simp only [Exit.then]
 have hit:=heap_alloc_new w3 (.mapIter (some r) clock #[] clock)
 have hold4:∀ j,j < w3.heap.size->(w3.alloc (.mapIter (some r) clock #[] clock)).heap[j]?=w3.heap[j]?:=fun j hj=>Below.heap_alloc w3 _ j hj
 have hb4:Below w.heap.size w (w3.alloc (.mapIter (some r) clock #[] clock)):=hb3.alloc (by omega) _
 rw [hw3s] at hit ⊢
 generalize w3.alloc (.mapIter (some r) clock #[] clock)=w4 at hit hold4 hb4 ⊢
 have hstamp:=hte.2.1
 refine wBk (wLp (fun a' w'=>∃ seen ks lv,EL TU T32 w (w.heap.size+1) (w.heap.size+2) r clock es (.pointer (some ⟨b,o,none⟩)) (.func (.func CL2) #[] #[.pointer (some ⟨c,0,none⟩)]) seen ks lv a' w') (fun _ w'=>(leftOf es (w'.iterSeen (w.heap.size+2))).size) ?_ ?_)
 ·refine ⟨#[],[],.slice (some ⟨w.heap.size,0,none⟩) 0 u.length,?_⟩
  exact ⟨by simp [sPu,hs],by simp [dPu,hd],by simp (disch:=(try simp only [sPu]);omega) [k0],by simp (disch:=(try simp only [sPu]);omega) [k1],by simp (disch:=(try simp only [sPu]);omega),by simp (disch:=(try simp only [sPu]);omega),hb4,by rw [hold4 _ (by omega)];exact hrow3,hit,row_keep hown3 fun k hk=>by
    simp [Value.ownBlock] at hk;subst hk;exact hold4 _ (by omega),
   by simp [Value.ownBlock],by rw [left_none];simp⟩
 rintro a1 w5 ⟨seen,ks,lv,h⟩
 have hr5:w5.heap[r]?=some (.map es clock):=by rw [h.below.block r (by omega)];exact hes
 have hs1:=h.size
 have iseen:∀ {w':World} {s:Array Nat} {m:Option Nat} {x y:Nat},w'.heap[w.heap.size+2]?=some (.mapIter m x s y)->w'.iterSeen (w.heap.size+2)=s:=fun h=>by unfold World.iterSeen;rw [h]
 refine wSq (wRg (oNo rfl (opw_next (by rw [eTm];exact h.s24) h.itr hr5 hstamp.1 (Nat.le_refl _) ?_ ?_)))
 ·
  intro hz
  iterate 1 (apply ops_1;(focus (simp (disch:=(try simp only [sPu]);omega) ;try rfl)))
  refine oNi ?_
  simp only [Exit.then]
  refine wSq (wCd (t:=false) (by simp (disch:=(try simp only [sPu]);omega)) ?_)
  rw [if_neg (by simp)]
  refine wXt ?_
  simp only [Exit.then,Exit.inBlock,if_true]
  have hperm:(ks.map encK).Perm (u.map fun x=>Value.int .u32 (x.1:Int)):=by
   have h1:=h.perm
   have hz2:(leftOf es seen).toList=[]:=List.length_eq_zero_iff.1 (by simpa using hz)
   rw [hz2] at h1
   exact (by simpa using h1:(ks.map encK).Perm (es.toList.map (·.key))).trans hte.1
  have hkp:ks.Perm (u.map (·.1)):=by
   have:=hperm.map (fun v=>match v with | Value.int _ n=>n.toNat | _=>0)
   simpa [List.map_map,Function.comp_def] using this
  have hkl:ks.length=u.length:=by have:=hkp.length_eq;simpa using this
  obtain ⟨blk,cap,hlv,hblk,hblks⟩:∃ blk cap,lv=.slice (some ⟨blk,0,none⟩) ks.length cap/\w.heap.size<=blk/\blk < w5.heap.size:=by
   rcases h.own.2 with ⟨_,e⟩ | ⟨g,cap,cur,e1,e2,e3,_⟩
   ·omega
   ·exact ⟨g,cap,e1,e2,(Array.getElem?_eq_some_iff.1 e3).1⟩
  have hq5:=h.qrow
  have ho5:=h.own
  have hoq:=h.ownq
  have hs4:=h.s4
  have hs0:=h.s0
  have hs1':=h.s1
  have hd1:=h.defers
  have hbl:=h.below
  subst hlv
  have hqb:w.heap.size+1 ≠ blk:=fun e=>hoq.1 (by simp [Value.ownBlock,e])
  have hqs:w.heap.size+1 < w5.heap.size:=(Array.getElem?_eq_some_iff.1 hq5).1
  have hqc:w5.cell? ⟨w.heap.size+1,0,none⟩=some (.slice (some ⟨blk,0,none⟩) ks.length cap):=by rw [cell_of_row _ _ _ _ _ _ hq5];rfl
  refine wSq (wRg ?_)
  iterate 1 (apply ops_1;(focus (simp (disch:=(try simp only [sPu]);omega) [hs4,hTU1,hqc];try rfl)))
  refine oNo rfl (opw_iface (v:=.slice (some ⟨blk,0,none⟩) ks.length cap) hTUu (by simp (disch:=(try simp only [sPu]);omega)) ?_)
  refine oNo rfl (opw_mkFunc (v:=.pointer (some ⟨w.heap.size+1,0,none⟩)) (by simp (disch:=(try simp only [sPu]);omega) [hs4]) ?_)
  refine ops_call cSort.1 (cSort.2 w5 w.heap.size (w.heap.size+1) blk cap ks hqb hqs hq5 ho5 (by omega)) (by simp (disch:=(try simp only [sPu]);omega)) ?_
  rintro e w6 ⟨rfl,z1,z2,z3,hsz6,hfr6,ks',hp6,hso6,hcell6⟩
  refine ⟨_,rfl,oNi ?_⟩
  simp only [Exit.then]
  have hsorted:Sorted u:=by have:=(unknown_facts u).1;rwa [huk] at this
  have hks':ks'=u.map (·.1):=perm_sorted _ _ (hp6.trans hkp) hso6 (List.pairwise_map.2 hsorted)
  have hq6:w6.cell? ⟨w.heap.size+1,0,none⟩=some (.slice (some ⟨blk,0,none⟩) ks.length cap):=by rw [World.cell?_of_block (a:=⟨w.heap.size+1,0,none⟩) (hfr6 _ hqs hqb)];exact hqc
  have hblk6:∀ j,j < w.heap.size->w6.heap[j]?=w.heap[j]?:=fun j hj=>by rw [hfr6 j (by have:=hbl.size;omega) (by omega)];exact hbl.block j hj
  have hbl6:Below w.heap.size w w6:=⟨z1.trans hbl.os,z2.trans hbl.tape,z3.trans hbl.output,Nat.le_trans hbl.size hsz6,hblk6⟩
  have hbc':True->b ≠ c:=fun _=>hbc
  have keep0:∀ j,(j < B∨j=blk∨j=b)->j < w6.heap.size/\j ≠ c:=by
   have q1:=hbl6.size
   have q2:=hbl.size
   clear hbc
   rintro j (hj | hj | hj)
   ·exact ⟨by omega,by omega⟩
   ·exact ⟨by omega,by omega⟩
   ·exact ⟨by omega,by rw [hj];exact hbc' trivial⟩
  refine wSq (wRg ?_)
  repeat (apply ops_1;(focus (simp (disch:=(try simp only [sPu]);omega) [hs4,hTU1,hq6,hTUs];try rfl)))
  refine oNi ?_
  simp only [Exit.then]
  have hcell6':∀ i x,u[i]?=some x->w6.cell? ⟨blk,i,none⟩=some (encK x.1):=fun i x hx=>hcell6 i x.1 (by rw [hks'];simp [hx])
  rw [hkl] at *
  refine wBk (wLp (fun a' w'=>∃ i dvi,i<=u.length/\EL2 tU8 TB B c u.length xs u w6 dv (.slice (some ⟨blk,0,none⟩) u.length cap) (.pointer (some ⟨b,o,none⟩)) (.func (.func CL2) #[] #[.pointer (some ⟨c,0,none⟩)]) i dvi a' w')
   (fun a' _=>match getT a' 39 with | .int _ m=>(u.length - m).toNat | _=>0) ?_ ?_)
  ·refine ⟨0,dv,Nat.zero_le _,?_⟩
   exact ⟨by simp [sPu,hs1],by simp [dPu,hd1],by simp (disch:=(try simp only [sPu]);omega) [hs0],by simp (disch:=(try simp only [sPu]);omega) [hs1'],by simp (disch:=(try simp only [sPu]);omega),by simp (disch:=(try simp only [sPu]);omega),by simp (disch:=(try simp only [sPu]);omega);try rfl,Turns.refl _ _ _,by rw [hblk6 c hcs];exact hc,by
    have:Own tU8 w6 B dv xs:=own_keepB ho fun k hk=>hblk6 k (own_ltB ho hk).2
    simpa using this,hne⟩
  rintro a2 w7 ⟨i,dvi,hi,g⟩
  have gs:=g.size
  refine wSq (wRg ?_)
  repeat (apply ops_1;(focus (simp (disch:=(try simp only [sPu]);omega) [g.s38,g.s39];try rfl)))
  refine oNi ?_
  simp only [Exit.then]
  refine wSq (wCd (t:=decide ((i:Int) < (u.length:Int))) (by simp (disch:=(try simp only [sPu]);omega)) ?_)
  cases e1:decide ((i:Int) < (u.length:Int))
  ·rw [if_neg (by simp)]
   refine wXt ?_
   simp only [Exit.then,Exit.inBlock,if_true]
   have hin:i=u.length:=by simp at e1;omega
   refine bodyPost_end (v:=.tuple #[]) (by simp [results,hr]) (by simp [dPu,g.defers]) ⟨rfl,dvi,g.crow,?_,g.ne,?_⟩
   ·have:=g.own
    rwa [hin,List.take_length] at this
   ·have t:=g.turns
    refine ⟨t.os.trans hbl6.os,t.tape.trans hbl6.tape,t.output.trans hbl6.output,Nat.le_trans hbl6.size t.size,fun j hj hjc hjd=>?_,?_⟩
    ·rw [t.block j (by have:=hbl6.size;omega) hjc hjd]
     exact hblk6 j hj
    ·rcases t.own with e | ⟨b',e,hb'⟩
     ·exact .inl e
     ·exact .inr ⟨b',e,by have:=hbl6.size;omega⟩
  ·have hil:i < u.length:=by simp at e1;omega
   rw [if_pos rfl]
   refine wSk ?_
   simp only [Exit.then]
   have hui:=List.getElem?_eq_getElem hil
   have t:=g.turns
   have dvB:∀ k,dv.ownBlock=some k->B<=k/\k < w.heap.size:=fun k hk=>own_ltB ho hk
   have keep:∀ j,j < B∨j=blk∨j=b->w7.heap[j]?=w6.heap[j]?:=fun j hj=>t.block j (keep0 j hj).1 (keep0 j hj).2 fun e=>by
    rcases hj with hj | hj | hj
    ·have:=dvB j e.symm
     omega
    ·have:=dvB j e.symm
     omega
    ·exact hbd (by rw [<- hj];exact e.symm)
   have hblkc:w7.cell? ⟨blk,i,none⟩=some (encK u[i].1):=by rw [World.cell?_of_block (a:=⟨blk,i,none⟩) (keep blk (.inr (.inl rfl)))];exact hcell6' i _ hui
   have hv7:w7.cell? ⟨b,o,none⟩=some (.map (some r)):=by
    rw [World.cell?_of_block (a:=⟨b,o,none⟩) ((keep b (.inr (.inr rfl))).trans (hblk6 b (by omega)))];exact hv
   have hes7:w7.heap[r]?=some (.map es clock):=by rw [keep r (.inl hrB),hblk6 r (by omega)];exact hes
   have hte7:TagsEs w7 (· < B) es clock u:=⟨hte.1,hte.2.1,fun e he x hx hk=>by
    obtain ⟨base,cap',q1,q2⟩:=hte.2.2 e he x hx hk
    exact ⟨base,cap',q1,bytesAt_mono q2 (fun _ h=>h) fun k hk=>(keep k (.inl hk)).trans (hblk6 k (by omega))⟩⟩
   have ei:(0:Int)<=(i:Int)/\(i:Int) < (u.length:Int):=by omega
   have hux':=hux u[i] (List.getElem_mem hil)
   have htk:=take_flat u wTag i hil
   refine wSq (wBk (wSq (wRg ?_)))
   repeat (apply ops_1;(focus (simp (disch:=(try simp only [sPu]);omega) [g.s37,g.s39,hTUs,hT32,ei,hil,hblkc];try rfl)))
   refine oNi ?_
   simp only [Exit.then]
   refine wRg ?_
   iterate 7 (apply ops_1;(focus (simp (disch:=(try simp only [sPu]);omega) [g.s0,g.s1,hF0,hTM1,hv7];try rfl)))
   refine oNo rfl (opw_lookup (k:=u[i].1) hTM (by simp (disch:=(try simp only [sPu]);omega)) (by simp (disch:=(try simp only [sPu]);omega)) hes7 hte7 (List.getElem_mem hil) rfl fun base cap' hbs=>?_)
   obtain ⟨fnC,oc1,oc2,oc3⟩:=oCl
   refine oNo rfl (opw_callv (f:=CL2) (lb:=#[.pointer (some ⟨c,0,none⟩)]) (argsV:=#[.int .u32 (u[i].1:Int),.slice base u[i].2.length cap',.pointer (some ⟨c,0,none⟩)]) (by simp (disch:=(try simp only [sPu]);omega) [g.s1]) oc1 oc2 oc3 (by simp (disch:=(try simp only [sPu]);omega)) (cCl w7 B c u[i].1 cap' dvi _ u[i].2 base g.own g.ne g.crow hBc hux'.1 hbs hux'.2 (by rw [List.length_append];show _+(wTag u[i]).length<=lim;omega)) ?_)
   rintro e w8 ⟨rfl,dv8,hc8,ho8,hne8,t8⟩
   refine ⟨_,rfl,oNi ?_⟩
   simp only [Exit.then,Exit.inBlock]
   have hw:IntKind.i64.wrap ((i:Int)+1)=((i+1:Nat):Int):=by
    have hu:=hum
    rw [w64E (by omega) (by omega)]
    rfl
   refine wRg ?_
   repeat (apply ops_1;(focus (simp (disch:=(try simp only [sPu]);omega) [g.s39,hw];try rfl)))
   refine oNi ?_
   simp only [Exit.then]
   refine ⟨⟨i+1,dv8,by omega,⟨by simp [sPu,gs],by simp [dPu,g.defers],by simp (disch:=(try simp only [sPu]);omega) [g.s0],by simp (disch:=(try simp only [sPu]);omega) [g.s1],by simp (disch:=(try simp only [sPu]);omega) [g.s37],by simp (disch:=(try simp only [sPu]);omega) [g.s38],by simp (disch:=(try simp only [sPu]);omega),t.trans t8,hc8,?_,hne8⟩⟩,?_⟩
   ·rw [htk.1,<- List.append_assoc]
    exact ho8
   ·simp (disch:=(try simp only [sPu]);omega) [gTp,gTn,g.s39]
    omega
 ·
  intro e he w6 hw6
  have hem:=mem_left he
  have hkey:∃ x ∈ u,e.key=encK x.1:=by
   have:e.key ∈ u.map fun x=>Value.int .u32 (x.1:Int):=hte.1.mem_iff.1 (List.mem_map_of_mem hem.1)
   obtain ⟨x,hx,hxe⟩:=List.mem_map.1 this
   exact ⟨x,hx,hxe.symm⟩
  obtain ⟨x,hxu,hxk⟩:=hkey
  have hlenk:ks.length+1<=u.length:=by
   have h1:=h.perm.length_eq
   have h2:=(left_perm hstamp.2.1 he).length_eq
   simp only [List.length_append,List.length_map,List.length_cons,Array.length_toList] at h1 h2
   omega
  have hh6:w6.heap=w5.heap:=by rcases hw6 with rfl | rfl <;> rfl
  have hm6:w6.os=w5.os/\w6.tape=w5.tape/\w6.output=w5.output:=by rcases hw6 with rfl | rfl <;> exact ⟨rfl,rfl,rfl⟩
  have hits:w.heap.size+2 < w5.heap.size:=(Array.getElem?_eq_some_iff.1 h.itr).1
  have hqs:w.heap.size+1 < w5.heap.size:=(Array.getElem?_eq_some_iff.1 h.qrow).1
  obtain ⟨w7,hw7⟩:∃ w7,w7=ChangeMaps.setBlock w6 (w.heap.size+2) (.mapIter (some r) clock (seen.push e.born) clock):=⟨_,rfl⟩
  have h7it:w7.heap[w.heap.size+2]?=some (.mapIter (some r) clock (seen.push e.born) clock):=by rw [hw7];simp [ChangeMaps.setBlock,hh6,hits]
  have h7o:∀ j,j ≠ w.heap.size+2->w7.heap[j]?=w5.heap[j]?:=fun j hj=>by rw [hw7];simp [ChangeMaps.setBlock,hh6,Array.getElem?_setIfInBounds_ne (Ne.symm hj)]
  have h7s:w7.heap.size=w5.heap.size:=by rw [hw7];simp [ChangeMaps.setBlock,hh6]
  have h7m:w7.os=w5.os/\w7.tape=w5.tape/\w7.output=w5.output:=by rw [hw7];exact hm6
  have h7b:Below w.heap.size w w7:=⟨h7m.1.trans h.below.os,h7m.2.1.trans h.below.tape,h7m.2.2.trans h.below.output,by have:=h.below.size;omega,fun j hj=>(h7o j (by omega)).trans (h.below.block j hj)⟩
  rw [<- hw7]
  clear hw7 hw6 hm6 hh6
  have hr7:w7.heap[r]?=some (.map es clock):=by rw [h7b.block r (by omega)];exact hes
  have hown7:w7.ownsRow w.heap.size T32 1 lv ks.length (ks.map encK):=row_keep h.own fun k hk=>h7o k fun e2=>h.ownq.2 (by rw [hk,e2])
  have hq7:w7.heap[w.heap.size+1]?=some (.cells #[lv] TU (0,0)):=by rw [h7o _ (by omega)];exact h.qrow
  have hqc7:w7.cell? ⟨w.heap.size+1,0,none⟩=some lv:=by rw [cell_of_row _ _ _ _ _ _ hq7];rfl
  iterate 1 (apply ops_1;(focus (simp (disch:=(try simp only [sPu]);omega) ;try rfl)))
  refine oNi ?_
  simp only [Exit.then]
  refine wSq (wCd (t:=true) (by simp (disch:=(try simp only [sPu]);omega)) ?_)
  rw [if_pos rfl]
  refine wSk ?_
  simp only [Exit.then]
  refine wBk (wSq (wRg (oNo rfl (opw_entry (by simp (disch:=(try simp only [sPu]);omega) [h.s24]) h7it hr7 hem.1 hstamp.2.1 ?_))))
  rw [hxk]
  repeat (apply ops_1;(focus (simp (disch:=(try simp only [sPu]);omega) ;try rfl)))
  refine oNi ?_
  simp only [Exit.then]
  refine wRg ?_
  iterate 2 (apply ops_1;(focus (simp (disch:=(try simp only [sPu]);omega) [h.s4,hTU1,hqc7];try rfl)))
  refine oNo rfl (opw_build1 hTUu hI hZ hS (v:=encK x.1) (by simp (disch:=(try simp only [sPu]);omega)) rfl ?_)
  have h8n:=heap_alloc_new w7 (.cells #[encK x.1] T32)
  have h8o:∀ j,j < w7.heap.size->(w7.alloc (.cells #[encK x.1] T32)).heap[j]?=w7.heap[j]?:=fun j hj=>Below.heap_alloc w7 _ j hj
  have h8s:(w7.alloc (.cells #[encK x.1] T32)).heap.size=w7.heap.size+1:=by simp
  have h8b:Below w.heap.size w (w7.alloc (.cells #[encK x.1] T32)):=h7b.alloc h7b.size _
  generalize w7.alloc (.cells #[encK x.1] T32)=w8 at h8n h8o h8s h8b ⊢
  have hown8:w8.ownsRow w.heap.size T32 1 lv ks.length (ks.map encK):=row_keep hown7 fun k hk=>h8o k (hown7.lt k hk).2
  refine oNo rfl (opw_append32 (k:=x.1) (b:=w7.heap.size) hTUu hI hZ (by rw [hZc];rfl) hS hBy rfl (by simp (disch:=(try simp only [sPu]);omega)) (by simp (disch:=(try simp only [sPu]);omega)) hown8 h8b.size (by omega) (by rw [cell_of_row _ _ _ _ _ _ h8n];rfl) ?_)
  intro lv9 w9 ho9 hg9 hob9
  have hq9:w9.heap[w.heap.size+1]?=some (.cells #[lv] TU (0,0)):=by rw [hg9.block _ (by omega) fun e=>h.ownq.1 e.symm,h8o _ (by omega)];exact hq7
  have hob9':∀ j,j < w7.heap.size->lv.ownBlock ≠ some j->lv9.ownBlock ≠ some j:=fun j hj hl=>by
   rcases hob9 with e | ⟨b',e,hb'⟩
   ·rw [e];exact hl
   ·rw [e];intro e2;cases e2;omega
  have hone9:lv9.oneCell'=true:=by rcases ho9.2 with ⟨rfl,_⟩ | ⟨_,_,_,rfl,_⟩ <;> rfl
  refine ops_stR (b:=w.heap.size+1) (i:=0) (cs:=#[lv]) (v:=lv9) hTU1 (by simp (disch:=(try simp only [sPu]);omega) [h.s4]) (by simp (disch:=(try simp only [sPu]);omega)) hone9 hq9 (by simp) ?_
  refine oNi ?_
  simp only [Exit.then,Exit.inBlock]
  have hb9:Below w.heap.size w w9:=h8b.grown hg9 h8b.size (fun k hk=>(hown8.lt k hk).1)
  have hlt9:w8.heap.size<=w9.heap.size:=hg9.size
  have hit9:(w9.setRow (w.heap.size+1) (#[lv].setIfInBounds 0 lv9)).heap[w.heap.size+2]?=some (.mapIter (some r) clock (seen.push e.born) clock):=by
   rw [setRow_other _ _ _ _ (by omega),hg9.block _ (by omega) fun e=>h.ownq.2 e.symm,h8o _ (by omega)];exact h7it
  refine ⟨⟨seen.push e.born,ks ++ [x.1],lv9,⟨by simp [sPu,hs1],by simp [dPu,h.defers],by simp (disch:=(try simp only [sPu]);omega) [h.s0],by simp (disch:=(try simp only [sPu]);omega) [h.s1],by simp (disch:=(try simp only [sPu]);omega) [h.s4],by simp (disch:=(try simp only [sPu]);omega) [h.s24],below_setRow hb9 (by omega) _,setRow_heap _ _ _ _ _ _ hq9,hit9,?_,⟨hob9' _ (by omega) h.ownq.1,hob9' _ (by omega) h.ownq.2⟩,?_⟩⟩,?_⟩
  ·refine row_keep ho9 fun k hk=>setRow_other _ _ _ _ fun e2=>?_
   subst e2
   exact hob9' _ (by omega) h.ownq.1 hk
  ·have h1:=h.perm
   have h2:=((left_perm hstamp.2.1 he).map (·.key)).append_right (ks.map encK)
   refine List.Perm.trans ?_ (h2.symm.trans h1)
   simp only [List.map_cons,List.map_append,List.map_nil,List.cons_append,hxk]
   rw [<- List.append_assoc]
   exact List.perm_append_singleton _ _
  ·rw [iseen hit9,iseen h.itr]
   exact left_shrinks es seen e he
end
set_option maxHeartbeats 4000000
def sc_TAppendEach (TB fEach:Nat) (g:Fn):SC:=.seq (.reg [⟨some 3,.box TB (.tmp 1),none⟩,⟨some 4,.assign (.const (.slice none 0 0)),none⟩]) (.seq (.reg [mv 5 0,⟨some 6,.makeFunc g #[] #[.tmp 3],none⟩,cal 7 fEach [5,6]]) (.seq (.reg [ld 8 TB 3,asg 4 8]) .ret))
section
variable {P:Program} {f:FuncId} {fn:Func}
theorem appendEachN_ok {G:List (Nat × Bytes)->Prop} {TB fEach tU8 CL2:Nat} (hTB:oneB P TB=true) (oE:FnOK P fEach) (cE:EachC P tU8 TB CL2 G fEach)
  (hf:P.funcs[f]?=some fn) (hb:fn.body.map strip=some (sc_TAppendEach TB fEach (.func CL2))) (hn:fn.ntmps=9) (hr:fn.results=#[.tmp 4])
  (w:World) (B b o:Nat) (u:List (Nat × Bytes)) (dv:Value) (xs:Bytes) (hu:HTags G w (· < B) b o u) (hbs:b < w.heap.size) (hbd:dv.ownBlock ≠ some b) (ho:Own tU8 w B dv xs) (hB:B<=w.heap.size) (hl:xs.length+(u.flatMap wTag).length<=lim) :
  Calls P f #[.pointer (some ⟨b,o,none⟩),dv] w fun e w'=>∃ dv',e=.returned dv'/\Own tU8 w' B dv' (xs ++ u.flatMap wTag)/\BelG B dv dv' w w'/\B<=w'.heap.size:=by
 have h1:dv.oneCell'=true:=own_one ho
 refine fCa hf hb hn (by simp) fun a0 hs hd ha=>?_
 have h0:=ha 0 _ rfl
 have hd1:=ha 1 _ rfl
 simp only [List.getElem_toArray,List.getElem_cons_zero,List.getElem_cons_succ] at h0 hd1
 refine wSq (wRg (oNo rfl (opw_box (v:=dv) (by rw [eTm,hd1]) ?_)))
 rw [cells_oneCell h1]
 have hnew:=heap_alloc_new w (.cells #[dv] TB)
 have hold:∀ j,j < w.heap.size->(w.alloc (.cells #[dv] TB)).heap[j]?=w.heap[j]?:=fun j hj=>Below.heap_alloc w _ j hj
 have hbn:Below B w (w.alloc (.cells #[dv] TB)):=(Below.refl _ _).alloc hB _
 have hon:Own tU8 (w.alloc (.cells #[dv] TB)) B dv xs:=ho.alloc _
 have hsn:(w.alloc (.cells #[dv] TB)).heap.size=w.heap.size+1:=by simp
 have hun:HTags G (w.alloc (.cells #[dv] TB)) (· < B) b o u:=by
  obtain ⟨q1,q2,q3,q4,q5⟩:=hu
  refine ⟨q1,q2,q3,q4,q5.imp ?_ ?_⟩
  ·rintro ⟨z1,z2⟩
   exact ⟨by rw [World.cell?_of_block (a:=⟨b,o,none⟩) (hold b hbs)];exact z1,z2⟩
  ·rintro ⟨r,es,clock,z1,z2,z3,zn,z4⟩
   exact ⟨r,es,clock,by rw [World.cell?_of_block (a:=⟨b,o,none⟩) (hold b hbs)];exact z1,z2,by rw [hbn.block r z2];exact z3,zn,z4.1,z4.2.1,fun e he x hx hk=>by
    obtain ⟨base,cap,y1,y2⟩:=z4.2.2 e he x hx hk
    exact ⟨base,cap,y1,bytesAt_mono y2 (fun _ h=>h) fun k hk=>hbn.block k hk⟩⟩
 have hne:dv.ownBlock ≠ some w.heap.size:=fun e=>by have:=(own_ltB ho e).2;omega
 generalize w.alloc (.cells #[dv] TB)=w1 at *
 repeat (apply ops_1;(focus (simp (disch:=(try simp only [sPu]);omega) ;try rfl)))
 refine oNi (wSq (wRg ?_))
 iterate 1 (apply ops_1;(focus (simp (disch:=(try simp only [sPu]);omega) [h0];try rfl)))
 refine oNo rfl (opw_mkFunc (v:=.pointer (some ⟨w.heap.size,0,none⟩)) (by simp (disch:=(try simp only [sPu]);omega)) ?_)
 refine ops_call oE (cE w1 B b o w.heap.size u dv xs hun (by omega) (by omega) hbd hon hne hnew hB hl) (by simp (disch:=(try simp only [sPu]);omega) [h0]) ?_
 rintro e w2 ⟨rfl,dv2,hc2,ho2,hne2,t2⟩
 refine ⟨_,rfl,oNi ?_⟩
 simp only [Exit.then]
 have hcc:w2.cell? ⟨w.heap.size,0,none⟩=some dv2:=by rw [cell_of_row _ _ _ _ _ _ hc2];rfl
 have hg2:(∀ k,k < w.heap.size->some k ≠ dv.ownBlock->w2.heap[k]?=w.heap[k]?)/\(dv2.ownBlock=dv.ownBlock∨∃ b,dv2.ownBlock=some b/\w.heap.size<=b):=by
  refine ⟨fun k hk hn=>(t2.block k (by omega) (by omega) hn).trans (hold k hk),?_⟩
  rcases t2.own with e | ⟨b',e,hb'⟩
  ·exact .inl e
  ·exact .inr ⟨b',e,by omega⟩
 have hb2:Below B w w2:=⟨t2.os.trans hbn.os,t2.tape.trans hbn.tape,t2.output.trans hbn.output,by have:=t2.size;omega,fun k hk=>by
  rw [t2.block k (by omega) (by omega) fun e=>by have:=(own_ltB ho e.symm).1;omega]
  exact hbn.block k hk⟩
 refine wSq (wRg ?_)
 repeat (apply ops_1;(focus (simp (disch:=(try simp only [sPu]);omega) [hTB,hcc];try rfl)))
 refine oNi (wRt (ret_tmp hr (by simp [dPu,hd]) ⟨dv2,?_,ho2,⟨hb2,hg2⟩,by have:=t2.size;omega⟩))
 simp (disch:=(try simp only [sPu]);omega)
theorem swoLt:Sort.SWO (fun x y:Nat=>decide (x < y)):=⟨fun x=>by simp,fun x y z h1 h2=>by simp at *;omega,fun x y z h1 h2=>by simp at *;omega⟩
theorem isAgg_no {T:TypeId} (h:oneB P T=true):∀ w:World,(isAgg T).run P w=.ok false w:=fun w=>run_isAgg_one h
open Go.Sort Go.Shelf Go.Lib in
theorem sortC {ρ:Ren} (L:LaysGg.n6 P ρ) {CL TU T32:Nat} {fnL:Func} (hm:P.follows .mixedOrders=true) (h0:oneB P TU=true) (hs0:sliceN P TU=some 1) (h1:oneB P T32=true) {i ie:TypeInfo} (hi:P.info? TU=some i) (hid:i.desc=.slice T32) (hpk:P.packed TU=false) (hie:P.info? T32=some ie) (ke:Nat) (hke:∀ w,(Extern.Rtype.kind T32).run P w=.ok ke w) (hsz:ie.size=1)
  (hfL:P.funcs[CL]?=some fnL) (hbL:fnL.body.map strip=some (sc_Each1 TU T32)) (hnL:fnL.ntmps=15) (hrL:fnL.results=#[.tmp 5]) (oFS:FnOK P (ρ.f 6)) (oCL:FnOK P CL)
  (fS : Nat -> Nat) (hfS : ∀ n, P.funcs.findIdx? (·.name == "internal/reflectlite" ++ ".Swapper$" ++ toString (swapperK n ie ke)) = some (fS n))
  (gS:Bool) (hx:∀ (n:Nat) args W,2<=n->(callFunc (fS n) args).run P W=((Extern.ReflectliteSwapper.swap gS args).run P W).andThen fun v w'=>.ok (.value v) w'):SortC P (ρ.f 6) CL TU T32:=by
 refine ⟨oFS,fun w B q blk cap ks hqb hqs hq ho hlen=>?_⟩
 have hblks:blk < w.heap.size:=(ho.lt blk rfl).2
 have eg:∀ args w,(callFunc CL args).run P w=.ok (.enter CL args) w:=fun args w=>by
  obtain ⟨fn,q1,q2,q3⟩:=oCL
  exact run_callFunc q1 q2 q3
 have hcells:∀ j k,ks[j]?=some k->w.cell? ⟨blk,j,none⟩=some (encK k):=fun j k hj=>by
  have hlt:j < ks.length:=(List.getElem?_eq_some_iff.1 hj).1
  rw [ho.cellAt j (by omega)]
  simp [hj]
 have hH:Holds encK w blk 0 ks.toArray:=fun j hj=>by
  have hj':j < ks.length:=by simpa using hj
  refine ⟨?_,?_⟩
  ·rw [Nat.zero_add,hcells j ks[j] (List.getElem?_eq_getElem hj')]
   congr 2
   rw [getElem!_pos ks.toArray j hj]
   simp
  ·exact ho.frozenAt _
 have hqc:w.cell? ⟨q,0,none⟩=some (.slice (some ⟨blk,0,none⟩) ks.length cap):=by rw [cell_of_row _ _ _ _ _ _ hq];rfl
 have fin:∀ (n:Nat) (d':Array Nat) (os:Array Obj),d'.size=ks.length->∀ w',w'=grow (putRow encK (Sort.ahead w n) blk 0 d') os->w'.os=w.os/\w'.tape=w.tape/\w'.output=w.output/\w.heap.size<=w'.heap.size/\(∀ j,j < w.heap.size->j ≠ blk->w'.heap[j]?=w.heap[j]?)/\∀ i k,d'.toList[i]?=some k->w'.cell? ⟨blk,i,none⟩=some (encK k):=by
  intro n d' os hd' w' hw'
  subst hw'
  have hsz1:(putRow encK (Sort.ahead w n) blk 0 d').heap.size=w.heap.size:=by simp [Sort.ahead]
  refine ⟨rfl,rfl,rfl,by rw [size_grow];omega,fun j hj hne=>?_,fun i k hk=>?_⟩
  ·rw [heap_grow_old _ _ (by omega)]
   simp [putRow,mapBlock,Sort.ahead,Array.getElem?_modify,Ne.symm hne]
  ·have hil:i < d'.size:=by have:=(List.getElem?_eq_some_iff.1 hk).1;simpa using this
   rw [cell?_grow _ _ _ (by show blk < _;omega)]
   have:=cell?_putRow encK (Sort.ahead w n) blk 0 ks.toArray d' (holds_ahead _ _ _ _ _ _ hH) (by simpa using hd') i hil
   rw [Nat.zero_add] at this
   rw [this,getElem!_pos d' i hil]
   have h2:=(List.getElem?_eq_some_iff.1 hk).2
   simp at h2
   rw [h2]
 by_cases h2:2<=ks.length
 ·have hless:LessReads P CL #[.pointer (some ⟨q,0,none⟩)] encK (fun x y=>decide (x < y)) blk 0 ks.toArray.size w:=by
   intro m os dk hdk i j hi hj
   simp only [List.size_toArray] at hdk hi hj
   have hW:∀ a:Addr,a.block < w.heap.size->(sortWorld encK w blk 0 m dk os).cell? a=(putRow encK (Sort.ahead w m) blk 0 dk).cell? a:=fun a ha=>cell?_grow _ _ _ (by rw [size_putRow];exact ha)
   have hc:∀ t,t < ks.length->(sortWorld encK w blk 0 m dk os).cell? ⟨blk,t,none⟩=some (encK dk[t]!):=fun t ht=>by
    rw [hW ⟨blk,t,none⟩ hblks]
    have:=cell?_putRow encK (Sort.ahead w m) blk 0 ks.toArray dk (holds_ahead _ _ _ _ _ _ hH) (by simpa using hdk) t (by omega)
    rwa [Nat.zero_add] at this
   have hq2:(sortWorld encK w blk 0 m dk os).cell? ⟨q,0,none⟩=some (.slice (some ⟨blk,0,none⟩) ks.length cap):=by
    rw [hW ⟨q,0,none⟩ hqs,cell?_putRow_other _ _ _ _ _ _ (.inl hqb)]
    exact hqc
   have hws:w.heap.size<=(sortWorld encK w blk 0 m dk os).heap.size:=by
    unfold sortWorld
    rw [size_grow,size_putRow]
    simp [Sort.ahead]
   exact (less_ok hm h0 hs0 h1 hfL hbL hnL hrL _ q blk ks.length cap i j dk[i]! dk[j]! hq2 (by omega) (by omega) hi hj (hc i hi) (hc j hj)).mono fun e w' ⟨q1,q2⟩=>⟨q1,1,q2⟩
  have:=Any.sort_Slice_sorted L TU T32 i ie hi hid hpk hie ke hke hsz (isAgg_no h1) encK (fun _=>rfl) (fun x y:Nat=>decide (x < y)) swoLt CL #[.pointer (some ⟨q,0,none⟩)] eg blk 0 cap ks.toArray (by simpa using h2) (by simp;omega) (fS ks.toArray.size) (by simpa using hfS ks.toArray.size) gS (hx _ · · (by simpa using h2)) w hless hH hblks
  simp only [List.size_toArray] at this
  refine this.mono ?_
  rintro e w' ⟨rfl,d',n,os,hp,hso,hw'⟩
  have hds:d'.size=ks.length:=by simpa using hp.1
  obtain ⟨z1,z2,z3,z4,z5,z6⟩:=fin n d' os hds w' hw'
  refine ⟨rfl,z1,z2,z3,z4,z5,d'.toList,?_,?_,z6⟩
  ·have:=hp.2.2
   rw [<- hds] at this
   rw [show (d'.extract 0 d'.size)=d' by simp] at this
   have h3:(ks.toArray.extract 0 d'.size)=ks.toArray:=by rw [hds];simp
   rw [h3] at this
   simpa using this
  ·rw [List.pairwise_iff_getElem]
   intro i j hi hj hij
   have hj':j < d'.size:=by simpa using hj
   have:=hso i j (Nat.zero_le _) hij (by omega)
   rw [getElem!_pos d' i (by omega),getElem!_pos d' j hj'] at this
   simp at this ⊢
   omega
 ·have:=Any.sort_Slice_tiny L TU T32 i ie hi hid hpk hie ke hke (some ⟨blk,0,none⟩) ks.length cap (by omega) (fS ks.length) (hfS ks.length) (.func CL) #[] #[.pointer (some ⟨q,0,none⟩)] w
  refine this.mono ?_
  rintro e w' ⟨rfl,os,rfl⟩
  refine ⟨rfl,rfl,rfl,rfl,by rw [size_grow];omega,fun j hj _=>heap_grow_old _ _ hj,ks,List.Perm.refl _,?_,fun i k hk=>?_⟩
  ·match ks,h2 with
   | [],_=>exact List.Pairwise.nil
   | [x],_=>exact List.pairwise_singleton _ _
   | x :: y :: r,h2=>exact absurd (by simp) h2
  ·rw [cell?_grow _ _ _ (by show blk < _;omega)]
   exact hcells i k hk
end
set_option maxHeartbeats 200000
section
variable {P:Program} {tU8:Nat}
end
end Go.Proofs.YtdnpafdgglpagaaGreatDoor.K
namespace Go.Proofs.YtdnpafdgglpagaaGreatDoor.K
open Go Go.RowKit Go.Proofs.YtdnpafdgglpagaaGreatDoor.T
set_option linter.unusedVariables false
set_option linter.unusedSimpArgs false
set_option maxHeartbeats 2000000
theorem ins_same {t:Nat × Bytes}:∀ {acc:List (Nat × Bytes)} {p:Nat} {x:Nat × Bytes},(∀ i x,i < p->acc[i]?=some x->x.1 < t.1)->acc[p]?=some x->x.1=t.1->insTag t acc=acc
 | [],p,x,_,h,_=>by simp at h
 | y :: r,0,x,_,h,e=>by
  simp at h
  subst h
  simp only [insTag]
  rw [if_neg (by omega),if_pos e]
 | y :: r,p+1,x,h1,h,e=>by
  have hy:=h1 0 y (by omega) rfl
  simp only [insTag]
  rw [if_pos hy,ins_same (acc:=r) (p:=p) (x:=x) (fun i z hi hz=>h1 (i+1) z (by omega) (by simpa using hz)) (by simpa using h) e]
theorem ins_new {t:Nat × Bytes}:∀ {acc:List (Nat × Bytes)} {p:Nat},p<=acc.length->(∀ i x,i < p->acc[i]?=some x->x.1 < t.1)->(∀ x,acc[p]?=some x->t.1 < x.1)->insTag t acc=acc.take p ++ t :: acc.drop p
 | [],p,hp,_,_=>by
  obtain rfl:p=0:=by simpa using hp
  rfl
 | y :: r,0,_,_,h2=>by
  have:=h2 y rfl
  simp only [insTag]
  rw [if_neg (by omega),if_neg (by omega)]
  rfl
 | y :: r,p+1,hp,h1,h2=>by
  have hy:=h1 0 y (by omega) rfl
  simp only [insTag]
  rw [if_pos hy,ins_new (acc:=r) (p:=p) (by simpa using hp) (fun i z hi hz=>h1 (i+1) z (by omega) (by simpa using hz)) (fun x hx=>h2 x (by simpa using hx))]
  rfl
def cells2 (rows:List (Value × Value)):List Value:=rows.flatMap fun r=>[r.1,r.2]
theorem cells2_length (rows:List (Value × Value)):(cells2 rows).length=rows.length * 2:=by
 induction rows with
 | nil=>rfl
 | cons r l ih=>simp only [cells2,List.flatMap_cons,List.length_append,List.length_cons,List.length_nil] at ih ⊢;omega
theorem cells2_get:∀ (rows:List (Value × Value)) (j:Nat),(cells2 rows)[j]?=(rows[j / 2]?).map fun r=>if j % 2=0 then r.1 else r.2
 | [],j=>by simp [cells2]
 | r :: l,0=>by simp [cells2]
 | r :: l,1=>by simp [cells2]
 | r :: l,j+2=>by
  have ih:=cells2_get l j
  have:(cells2 (r :: l))[j+2]?=(cells2 l)[j]?:=by simp [cells2]
  rw [this,ih,show (j+2) / 2=j / 2+1 by omega,show (j+2) % 2=j % 2 by omega]
  simp
theorem cells2_append (a b:List (Value × Value)):cells2 (a ++ b)=cells2 a ++ cells2 b:=by simp [cells2]
def Out2 (w:World) (B T:Nat) (v:Value) (rows:List (Value × Value)):Prop:=w.ownsRow B T 2 v rows.length (cells2 rows)
theorem Out2.nil (w:World) (B T:Nat):Out2 w B T (.slice none 0 0) []:=World.ownsRow_nil _ _ _ _
theorem Out2.at {w:World} {B T:Nat} {v:Value} {rows:List (Value × Value)} (h:Out2 w B T v rows):∃ base cap,v=.slice base rows.length cap/\rows.length<=cap /\
  (rows=[]∨∃ g cur,base=some ⟨g,0,none⟩/\B<=g/\w.heap[g]?=some (.cells cur T (0,0))/\cur.size=cap * 2/\cur.toList.take (rows.length * 2)=cells2 rows):=by
 obtain ⟨h1,⟨rfl,h2⟩ | ⟨g,cap,cur,rfl,e2,e3,e4,e5,e6,e7⟩⟩:=h
 ·refine ⟨none,0,by rw [h2],by omega,.inl (List.length_eq_zero_iff.1 h2)⟩
 ·exact ⟨_,cap,rfl,e4,.inr ⟨g,cur,rfl,e2,e3,e6,e7⟩⟩
theorem Out2.read {w:World} {B T:Nat} {v:Value} {rows:List (Value × Value)} (h:Out2 w B T v rows) {k:Nat} {r:Value × Value} (hk:rows[k]?=some r):∃ g cap,v=.slice (some ⟨g,0,none⟩) rows.length cap/\B<=g/\w.cell? ⟨g,k * 2,none⟩=some r.1/\rangeV w g (k * 2) 2=some [r.1,r.2]:=by
 obtain ⟨base,cap,rfl,hc,h | ⟨g,cur,rfl,e2,e3,e4,e5⟩⟩:=h.at
 ·subst h
  simp at hk
 ·have hkl:k < rows.length:=(List.getElem?_eq_some_iff.1 hk).1
  have hget:∀ j,j < rows.length * 2->w.cell? ⟨g,j,none⟩=(cells2 rows)[j]?:=fun j hj=>by
   rw [cell_of_row _ _ _ _ _ _ e3,<- e5,List.getElem?_take,if_pos hj,Array.getElem?_toList]
  have c1:w.cell? ⟨g,k * 2,none⟩=some r.1:=by
   rw [hget _ (by omega),cells2_get,show k * 2 / 2=k by omega,hk]
   simp
  have c2:w.cell? ⟨g,k * 2+1,none⟩=some r.2:=by
   rw [hget _ (by omega),cells2_get,show (k * 2+1) / 2=k by omega,hk]
   simp [show (k * 2+1) % 2=1 by omega]
  refine ⟨g,cap,rfl,e2,c1,?_⟩
  have:=rangeV_of (w:=w) (b:=g) [r.1,r.2] (k * 2) (fun j v hj=>by
   match j,hj with
   | 0,hj=>simp at hj;subst hj;simpa using c1
   | 1,hj=>simp at hj;subst hj;exact c2)
  exact this
section
variable {P:Program} {a:Act} {w:World} {K:Act->World->Prop} {d:Option Tmp} {g:Option (Nat × Bool)}
theorem opw_store2 {T E B k g0 cap:Nat} {x y:Operand} {rows:List (Value × Value)} {r:Value × Value} (hT:aggB P T 2=true) (ho:Out2 w B E (.slice (some ⟨g0,0,none⟩) rows.length cap) rows) (hk:k < rows.length) (hx:a.eval x=.pointer (some ⟨g0,k * 2,none⟩)) (hy:a.eval y=.agg #[r.1,r.2])
  (h1:r.1.oneCell'=true) (h2:r.2.oneCell'=true) (h:∀ w',Out2 w' B E (.slice (some ⟨g0,0,none⟩) rows.length cap) (rows.set k r)->w'.heap.size=w.heap.size->(∀ b,b ≠ g0->w'.heap[b]?=w.heap[b]?)->Below B w w'->K (a.put d undef) w'):opw P ⟨d,.store T x y,g⟩ a w K:=by
 obtain ⟨i,hi,hs,_⟩:=agg_of (w:=w) hT
 obtain ⟨q1,⟨q2,-⟩ | ⟨g',cap',cur,e1,e2,e3,e4,e5,e6,e7⟩⟩:=ho
 ·cases q2
 cases e1
 have hst:=run_storeCells_at P g0 (k * 2) E [r.1,r.2] 0 cur w e3 (by simp;omega) (by intro v hv;simp at hv;rcases hv with rfl | rfl <;> assumption)
 simp only [Nat.add_zero] at hst
 refine opw_skip (w':=w.setRow g0 (cur.toList.take (k * 2) ++ [r.1,r.2] ++ cur.toList.drop (k * 2+2)).toArray) (by simp) (fun p hp=>?_) (h _ ?_ (by simp) (fun b hb=>setRow_other _ _ _ _ hb) ⟨rfl,rfl,rfl,by simp,fun b hb=>setRow_other _ _ _ _ (by omega)⟩)
 ·simp only [execOp,hp,hx,hy,Instr.storeAt,Instr.sureAddr,storeVar,sizeOf,typeInfo,hi,hs,Value.cells]
  simp only [List.length_cons,List.length_nil] at hst
  simp [hst,hi,hs]
 ·unfold Out2 World.ownsRow
  rw [List.length_set,cells2_length,List.length_set]
  have hcl:cur.toList.length=cap * 2:=by simpa using e6
  refine ⟨rfl,.inr ⟨g0,cap,_,rfl,e2,setRow_heap _ _ _ _ _ _ e3,e4,e5,by simp [hcl];omega,?_⟩⟩
  apply List.ext_getElem?
  intro j
  rw [cells2_get]
  simp only [List.toList_toArray]
  have hold:∀ j,j < rows.length * 2->cur.toList[j]?=(rows[j / 2]?).map fun r=>if j % 2=0 then r.1 else r.2:=fun j hj=>by
   rw [<- cells2_get,<- e7,List.getElem?_take,if_pos hj]
  by_cases hj:j < rows.length * 2
  ·rw [List.getElem?_take,if_pos hj]
   by_cases hjk:j / 2=k
   ·rw [hjk,List.getElem?_set_self hk]
    rw [List.append_assoc,List.getElem?_append_right (by simp;omega)]
    rw [List.getElem?_append_left (by simp;omega)]
    simp only [List.length_take,hcl,Nat.min_eq_left (show k * 2<=cap * 2 by omega)]
    rcases Nat.mod_two_eq_zero_or_one j with h0 | h0
    ·rw [show j - k * 2=0 by omega,h0];rfl
    ·rw [show j - k * 2=1 by omega,h0];rfl
   ·rw [List.getElem?_set_ne (Ne.symm hjk),<- hold j hj]
    rcases Nat.lt_or_ge j (k * 2) with hlt | hge
    ·rw [List.append_assoc,List.getElem?_append_left (by simp;omega),List.getElem?_take,if_pos hlt]
    ·rw [List.getElem?_append_right (by simp;omega),List.getElem?_drop]
     congr 1
     simp only [List.length_append,List.length_take,hcl,List.length_cons,List.length_nil,Nat.min_eq_left (show k * 2<=cap * 2 by omega)]
     omega
  ·rw [List.getElem?_take,if_neg hj,List.getElem?_eq_none (by rw [List.length_set];omega)]
   rfl
end
set_option maxHeartbeats 4000000
structure TagT (P:Program) (X:STy):Prop where
 agg:aggB P X.Tg 2=true
 row:P.underlying X.Tgs=some (.slice X.Tg)
 info:∃ i z,P.info? X.Tg=some i/\i.zero=some z/\z.cells=#[.int .u32 0,.slice none 0 0]/\i.size=2/\i.bytes<=1000
 built:P.built X.Tg []=some #[.int .u32 0,.slice none 0 0]
section
variable {P:Program} {X:STy} {f fKn:FuncId} {fn:Func}
theorem opw_build2 (hT:TagT P X) {a:Act} {w:World} {K:Act->World->Prop} {d:Option Tmp} {g:Option (Nat × Bool)} {x:Operand} {r:Value × Value} (hx:a.eval x=.agg #[r.1,r.2]) (h1:r.1.oneCell'=true) (h2:r.2.oneCell'=true)
  (h:K (a.put d (.slice (some ⟨w.heap.size,0,none⟩) 1 1)) (w.alloc (.cells #[r.1,r.2] X.Tg))):opw P ⟨d,.buildSlice X.Tgs 1 #[(0,x)],g⟩ a w K:=by
 obtain ⟨i,z,hi,hz,hzc,hsz,_⟩:=hT.info
 refine oVa (v:=.slice (some ⟨w.heap.size,0,none⟩) 1 1) (w':=w.alloc (.cells #[r.1,r.2] X.Tg)) (by simp) (fun p hp=>?_) h
 have hr:=run_buildSlice (P:=P) w X.Tgs X.Tg 1 #[(0,.agg #[r.1,r.2])] #[r.1,r.2] i z hT.row hi hz (by rw [hsz];decide) (by rw [hsz];decide) (by
  rw [hsz]
  have hz5:∀ (zf:Nat->Value),(Array.range (1 * 2)).map zf=#[zf 0,zf 1]:=fun zf=>Array.ext' (by simp [Array.toList_map,Array.toList_range,List.range,List.range.loop])
  rw [hz5]
  simp [Instr.fill,Value.cells])
 simp only [execOp,hp]
 simp [hx,hr]
theorem opw_append2 (hT:TagT P X) {a:Act} {w:World} {K:Act->World->Prop} {d:Option Tmp} {g:Option (Nat × Bool)} {x y:Operand} {B:Nat} {lv:Value} {rows:List (Value × Value)} {r:Value × Value} {ad:Addr} {ts:Array TypeId} (hts:ts=#[X.Tgs,X.Tgs]) (hx:a.eval x=lv) (hy:a.eval y=.slice (some ad) 1 1) (ho:Out2 w B X.Tg lv rows) (hB:B<=w.heap.size) (hj:rows.length < 4294967296)
  (hrc:∀ i v,[r.1,r.2][i]?=some v->w.cell? (ad.add i)=some v) (h1:r.1.oneCell'=true) (h2:r.2.oneCell'=true)
  (h:∀ lv' w',Out2 w' B X.Tg lv' (rows ++ [r])->w.grownBy w' lv.ownBlock->(lv'.ownBlock=lv.ownBlock∨∃ b,lv'.ownBlock=some b/\w.heap.size<=b)->K (a.put d lv') w'):opw P ⟨d,.call ⟨.builtin .append,#[x,y],ts⟩,g⟩ a w K:=by
 subst hts
 obtain ⟨i,z,hi,hz,hzc,hsz,hby⟩:=hT.info
 have hb:(rows.length+1) * i.bytes<=140737488355328:=Nat.le_trans (Nat.mul_le_mul (show rows.length+1<=4294967296 by omega) hby) (by decide)
 refine opw_of fun o next Q hd hop hn=>?_
 obtain ⟨v',w',hr,h2,h3,h4⟩:=run_append_src2 (P:=P) w B X.Tgs X.Tgs o.type X.Tg i z 2 i.bytes hT.row hi hz hsz rfl (by rw [hzc];rfl) (by decide) lv rows.length (cells2 rows) ho (.slice (some ad) 1 1) 1 [r.1,r.2] (Src.ofSlice w hT.row ad 1 1 [r.1,r.2] rfl hrc (by intro v hv;simp at hv;rcases hv with rfl | rfl <;> assumption)) (by simp only [maxLen];omega) hb hB
 have hop':o.op=.call ⟨.builtin .append,#[x,y],#[X.Tgs,X.Tgs]⟩:=stripOp_eq (by simp) hop
 have hr':(execOp a.eval o).run P w=.ok (.value v') w':=by
  simp [execOp,hop',resolve,invoke,builtin,hx,hy,hr]
 rw [hr',Oper.upon_value,hd]
 refine hn _ _ (h v' w' ?_ h3 h4)
 unfold Out2
 rw [cells2_append,List.length_append]
 exact h2
theorem insTag_length (t:Nat × Bytes):∀ l,(insTag t l).length<=l.length+1
 | []=>by simp [insTag]
 | x :: r=>by
  simp only [insTag]
  have:=insTag_length t r
  split
  ·simp;omega
  ·split <;> simp
theorem foldl_ins_length:∀ (l acc:List (Nat × Bytes)),(l.foldl (fun acc t=>insTag t acc) acc).length<=l.length+acc.length
 | [],acc=>by simp
 | x :: l,acc=>by
  simp only [List.foldl_cons,List.length_cons]
  have h1:=foldl_ins_length l (insTag x acc)
  have h2:=insTag_length x acc
  omega
def TRow (w0:World) (F:Nat->Prop) (x:Nat × Bytes) (r:Value × Value):Prop:=r.1=.int .u32 (x.1:Int)/\x.1 < 4294967296/\∃ vb vc,r.2=.slice vb x.2.length vc/\BytesAt w0 F vb x.2/\x.2.length<=vc
def TRows (w0:World) (F:Nat->Prop) (acc:List (Nat × Bytes)) (rows:List (Value × Value)):Prop:=acc.length=rows.length/\∀ (i:Nat) (x:Nat × Bytes) (r:Value × Value),acc[i]?=some x->rows[i]?=some r->TRow w0 F x r
theorem TRows.ins {w0:World} {F:Nat->Prop} {acc:List (Nat × Bytes)} {rows:List (Value × Value)} {x:Nat × Bytes} {r:Value × Value} (h:TRows w0 F acc rows) (hr:TRow w0 F x r) {p:Nat} (hp:p<=acc.length):TRows w0 F (acc.take p ++ x :: acc.drop p) (rows.take p ++ r :: rows.drop p):=by
 have hl:=h.1
 refine ⟨by simp;omega,fun i y s hy hs=>?_⟩
 rcases Nat.lt_trichotomy i p with hi | hi | hi
 ·rw [List.getElem?_append_left (by simp;omega),List.getElem?_take,if_pos hi] at hy hs
  exact h.2 i y s hy hs
 ·subst hi
  rw [List.getElem?_append_right (by simp;omega),show i - (acc.take i).length=0 by simp;omega] at hy
  rw [List.getElem?_append_right (by simp;omega),show i - (rows.take i).length=0 by simp;omega] at hs
  simp at hy hs
  subst hy
  subst hs
  exact hr
 ·rw [List.getElem?_append_right (by simp;omega),show i - (acc.take p).length=(i - 1 - p)+1 by simp;omega,List.getElem?_cons_succ,List.getElem?_drop,show p+(i - 1 - p)=i - 1 by omega] at hy
  rw [List.getElem?_append_right (by simp;omega),show i - (rows.take p).length=(i - 1 - p)+1 by simp;omega,List.getElem?_cons_succ,List.getElem?_drop,show p+(i - 1 - p)=i - 1 by omega] at hs
  exact h.2 (i - 1) y s hy hs
theorem last_set {rows:List (Value × Value)} {k:Nat} {z r:Value × Value} (hk:k<=rows.length):(rows.take k ++ z :: rows.drop k).set k r=rows.take k ++ r :: rows.drop k:=by
 rw [List.set_append_right _ _ (by simp;omega),show k - (rows.take k).length=0 by simp;omega,List.set_cons_zero]
theorem shift_set {rows:List (Value × Value)} {k:Nat} {z:Value × Value} (hk:k < rows.length):(rows.take (k+1) ++ z :: rows.drop (k+1)).set (k+1) rows[k]=rows.take k ++ rows[k] :: rows.drop k:=by
 have h1:rows.take (k+1)=rows.take k ++ [rows[k]]:=by rw [List.take_add_one,List.getElem?_eq_getElem hk];rfl
 have h2:rows.drop k=rows[k] :: rows.drop (k+1):=List.drop_eq_getElem_cons hk
 rw [last_set (by omega),h1,List.append_assoc]
 rw [h2]
 rfl
theorem hole_get {rows:List (Value × Value)} {k:Nat} {z:Value × Value} (hk:k < rows.length):(rows.take (k+1) ++ z :: rows.drop (k+1))[k]?=some rows[k]:=by
 rw [List.getElem?_append_left (by simp;omega),List.getElem?_take,if_pos (by omega),List.getElem?_eq_getElem hk]
end
end Go.Proofs.YtdnpafdgglpagaaGreatDoor.K
