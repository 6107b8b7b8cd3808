/- Generic texts: Z1 K9 K10 K14 Z2 R32 R1 R2 D1 R3 R4. No condition. -/
import Derived.Test.YtjbbohfaihkolaaN4
import Derived.ChangeArms
import Derived.Deep.Slices
import Derived.OpenShut
import Derived.Lib.AppendZeros
namespace Go.Proofs.Ytjbbohfaihkolaa.K
open Go Go.RowKit Go.Proofs.Ytjbbohfaihkolaa.T
open Go.ChangeShapes Go.WideShapes Go.Deep
set_option linter.unusedSimpArgs false
set_option linter.unusedVariables false
def sl8 (P:Program) (t:TypeId):Bool:=match P.underlying t with
  | some (.slice e)=>(match P.underlying e with | some (.int .u8)=>true | _=>false) && P.cellsOf e == 1 && P.cellsOf t == 1
  | _=>false
def isK (P:Program) (t:TypeId) (k:IntKind):Bool:=(match P.underlying t with | some (.int k')=>k' == k | _=>false) && P.cellsOf t == 1
def slO (P:Program) (t e:TypeId):Bool:=(match P.underlying t with | some (.slice e')=>e' == e | _=>false) && P.cellsOf t == 1
def isBo (P:Program) (t:TypeId):Bool:=(match P.underlying t with | some .bool=>true | _=>false) && P.cellsOf t == 1
def otB (P:Program) (T Tg:TypeId):Bool :=
  P.cellsOf T == 5 && P.cellsOf Tg == 2 &&
  (match P.underlying T with
   | some (.struct fs)=>(match fs.toList with
     | [f0,f1,f2,f3,f4]=>f0.offset == 0 && f1.offset == 1 && f2.offset == 2 && f3.offset == 3 && f4.offset == 4 && isK P f0.type .i64 && sl8 P f1.type && isBo P f2.type && slO P f3.type T && slO P f4.type Tg
     | _=>false)
   | _=>false) &&
  (match P.underlying Tg with
   | some (.struct fs)=>(match fs.toList with
     | [g0,g1]=>g0.offset == 0 && g1.offset == 1 && isK P g0.type .u32 && sl8 P g1.type
     | _=>false)
   | _=>false)
section
variable {H:Type} {enc:TypeId × Value→H} {P:Program} {w:World} {B:DataW H→Nat}
end
end Go.Proofs.Ytjbbohfaihkolaa.K
namespace Go.Proofs.Ytjbbohfaihkolaa.K
open Go Go.RowKit Go.Proofs.Ytjbbohfaihkolaa.T
set_option linter.unusedVariables false
set_option linter.unusedSimpArgs false
attribute [local simp] eTm eCo pNo gTp gTn qv qcall vop iop
section
variable {X:Fix}
theorem AFragP.keep {x:SC} {pre post:Act→Prop} {lo t:Nat} {o:Bytes} (h:AFragP X x pre post lo t o) (hst:∀ a a',Same X a a' lo t→pre a→pre a'):AFragP X x pre (fun a=>pre a∧post a) lo t o :=
  fun a w xs Q hi hp hlen hQ=>h a w xs Q hi hp hlen fun a' w' h1 h2 h3=>hQ a' w' h1 h2 ⟨hst _ _ h2 hp,h3⟩
end
end Go.Proofs.Ytjbbohfaihkolaa.K
namespace Go.Proofs.Ytjbbohfaihkolaa.K
open Go Go.RowKit Go.Proofs.Ytjbbohfaihkolaa.T
set_option linter.unusedVariables false
set_option linter.unusedSimpArgs false
attribute [local simp] eTm eCo pNo gTp gTn qv qcall vop iop
section
variable {X:Fix}
end
end Go.Proofs.Ytjbbohfaihkolaa.K
namespace Go.Proofs.Ytjbbohfaihkolaa.K
open Go Go.RowKit Go.Proofs.Ytjbbohfaihkolaa.T
attribute [local simp] eTm eCo pNo gTp gTn qv qcall vop iop
set_option linter.unusedSimpArgs false
set_option linter.unusedVariables false
section
variable {P:Program} {tU8:Nat}
end
end Go.Proofs.Ytjbbohfaihkolaa.K
namespace Go.Proofs.Ytjbbohfaihkolaa.K
open Go Go.RowKit Go.Proofs.Ytjbbohfaihkolaa.T
set_option linter.unusedVariables false
set_option linter.unusedSimpArgs false
def zeroB (P:Program) (T:Nat) (q:List Value→Bool):Bool:=match P.info? T with
  | some i=>(match i.zero with
    | some z=>q z.cells.toList
    | none=>false)
  | none=>false
theorem zeroB_of {P:Program} {T:Nat} {q:List Value→Bool} (h:zeroB P T q=true):∃ i z,P.info? T=some i∧i.zero=some z∧q z.cells.toList=true:=by
  unfold zeroB at h
  split at h
  · rename_i i hi
    split at h
    · rename_i z hz
      exact ⟨i,z,hi,hz,h⟩
    · cases h
  · cases h
def zcOf (P:Program) (T:TypeId):Array Value :=
  match (P.info? T).bind (·.zero) with
  | some z=>z.cells
  | none=>#[]
theorem zc_of {P:Program} {T:TypeId} (h:((P.info? T).bind (·.zero)).isSome=true):∃ i z,P.info? T=some i∧i.zero=some z∧z.cells=zcOf P T:=by
  obtain ⟨z,hz⟩:=Option.isSome_iff_exists.1 h
  obtain ⟨i,hi,hz'⟩:=Option.bind_eq_some_iff.1 hz
  exact ⟨i,z,hi,hz',by simp [zcOf,hz]⟩
end Go.Proofs.Ytjbbohfaihkolaa.K
namespace Go.Proofs.Ytjbbohfaihkolaa.K
open Go Go.RowKit Go.Proofs.Ytjbbohfaihkolaa.T
attribute [local simp] eTm eCo pNo gTp gTn qv qcall vop iop
set_option linter.unusedVariables false
set_option linter.unusedSimpArgs false
set_option maxHeartbeats 2000000
def sc_TLen (T0 T1:Nat):SC:=.seq (.reg [⟨some 2,.assign (.const (.int .i64 0)),none⟩]) (.seq (.reg [mv 3 0,nilc 4 3,fa 5 T0 4 0,ld 6 T1 5,lenOp 7 T1 6,asg 2 7]) (.ret))
def mapT (P:Program) (T:TypeId):Bool :=
  match P.underlying T with
  | some (.map _ _)=>true
  | _=>false
section
variable {G:List (Nat × Bytes)→Prop} {P:Program} {f:FuncId} {fn:Func}
theorem hTags_size {w:World} {F:Nat→Prop} {b o:Nat} {u:List (Nat × Bytes)} (h:HTags G w F b o u):∃ v,w.cell? ⟨b,o,none⟩=some v∧(v=.map none∧u=[]∨∃ r es clock,v=.map (some r)∧w.heap[r]?=some (.map es clock)∧es.size=u.length):=by
  obtain ⟨_,_,_,_,⟨h1,h2⟩ | ⟨r,es,clock,h1,_,h2,h3,_⟩⟩:=h
  · exact ⟨_,h1,.inl ⟨rfl,h2⟩⟩
  · refine ⟨_,h1,.inr ⟨r,es,clock,rfl,h2,?_⟩⟩
    have:=h3.length_eq
    simpa using this
theorem opw_lenMapN {a:Act} {w:World} {K:Act→World→Prop} {d:Option Tmp} {g:Option (Nat × Bool)} {T:TypeId} {x:Operand} {v:Value} {ts:Array TypeId} {n:Nat} (hT:mapT P T=true) (hx:a.eval x=v) (ht:ts=#[T])
    (hv:v=.map none∧n=0∨∃ r es clock,v=.map (some r)∧w.heap[r]?=some (.map es clock)∧es.size=n) (h:K (a.put d (.int .i64 (n:Int))) w):opw P ⟨d,.call ⟨.builtin .len,#[x],ts⟩,g⟩ a w K:=by
  subst ht
  unfold mapT at hT
  split at hT <;> try (simp at hT;done)
  rename_i k e hu
  refine oVa (v:=.int .i64 (n:Int)) (by simp) (fun p hp=>?_) h
  rcases hv with ⟨rfl,rfl⟩ | ⟨r,es,clock,rfl,hr,rfl⟩
  · simp [execOp,hp,hx,resolve,invoke,builtin,Builtin.len_,run_underlying hu,goInt]
  · simp [execOp,hp,hx,resolve,invoke,builtin,Builtin.len_,run_underlying hu,goInt,getObj,hr,Sem.run]
theorem tagsLenN_ok {TT TM:Nat} (hTM:mapT P TM=true) (h1:oneB P TM=true) (hF0:fieldOff P TT 0=some 0) (hf:P.funcs[f]?=some fn) (hb:fn.body.map strip=some (sc_TLen TT TM)) (hn:fn.ntmps=8) (hr:fn.results=#[.tmp 2])
    (w:World) (F:Nat→Prop) (b o:Nat) (u:List (Nat × Bytes)) (hu:HTags G w F b o u):Calls P f #[.pointer (some ⟨b,o,none⟩)] w fun e w'=>e=.returned (.int .i64 u.length)∧w=w':=by
  obtain ⟨v,hc,hv⟩:=hTags_size hu
  refine fCa hf hb hn (by simp) fun a0 hs hd ha=>?_
  have h0:=ha 0 _ rfl
  simp only [List.getElem_toArray,List.getElem_cons_zero,List.getElem_cons_succ] at h0
  refine SC.wp_seq (SC.wp_reg ?_)
  repeat (apply ops_1;(focus (simp (disch:=(try simp only [sPu]);omega) ;try rfl)))
  refine oNi (SC.wp_seq (SC.wp_reg ?_))
  iterate 4 (apply ops_1;(focus (simp (disch:=(try simp only [sPu]);omega) [h0,hF0,h1,hc];try rfl)))
  refine oNo rfl (opw_lenMapN (v:=v) (n:=u.length) hTM (by simp (disch:=(try simp only [sPu]);omega)) rfl (by
    rcases hv with ⟨e1,e2⟩ | h
    · exact .inl ⟨e1,by rw [e2];rfl⟩
    · exact .inr h) ?_)
  repeat (apply ops_1;(focus (simp (disch:=(try simp only [sPu]);omega) ;try rfl)))
  refine oNi (SC.wp_ret (ret_tmp hr (by simp [dPu,hd]) ⟨?_,rfl⟩))
  simp (disch:=(try simp only [sPu]);omega)
end
end Go.Proofs.Ytjbbohfaihkolaa.K
namespace Go.Proofs.Ytjbbohfaihkolaa.K
open Go Go.Proofs.Ytjbbohfaihkolaa.T
set_option linter.unusedVariables false
set_option linter.unusedSimpArgs false
structure RIds where
  tRd:Nat
  tTags:Nat
  tI8:Nat
  tI16:Nat
  tI32:Nat
  tBool:Nat
  rBool:Nat
  rI8:Nat
  rI16:Nat
  rI32:Nat
  rI64:Nat
  rU16:Nat
  rUuid:Nat
  rStr:Nat
  rUStr:Nat
  rCStr:Nat
  rUCStr:Nat
  rNStr:Nat
  rUNStr:Nat
  rCNStr:Nat
  rUCNStr:Nat
  rBytes:Nat
  rCBytes:Nat
  rNBytes:Nat
  rArr:Nat
  rCArr:Nat
  rOk:Nat
  rCompl:Nat
  rTags:Nat
def rTextT (c:Ctx):Nat:=if c.never then 3 else 7
def rNum (I:RIds):PK→Nat
  | .bool=>I.rBool | .i8=>I.rI8 | .i16=>I.rI16 | .i32=>I.rI32 | .i64=>I.rI64 | .u16=>I.rU16 | _=>I.rNBytes
def rPrimT (c:Ctx) (nul:Bool) (k:PK):Nat:=if k=.str then rTextT c else if k=.bytes∧c.never=false then 3 else 1
def rTagsT (tags:Option (Nat × Nat)):Nat:=if tags.isSome then 5 else 0
def rLenT (c:Ctx):Nat:=if c.never then 1 else 3
def rNilT (h:Hd):Nat:=if 0≤h.null then 7 else 0
mutual
def rV:Hd→Ty→Nat
  | h,.prim _=>if h.enum then 3 else 1
  | _,.list _ _ _ of=>4+rVE of
  | h,.struct _ _ _ _ fs=>(if 0≤h.null then 3 else 2)+rVs fs
def rVE:Ty→Nat
  | .prim _=>1
  | .list _ _ _ _=>0
  | .struct _ _ _ _ fs=>2+rVs fs
def rVs:Fs→Nat
  | .nil=>0
  | .cons h ty r=>rV h ty+rVs r
end
mutual
def rET (c:Ctx):Ty→Nat
  | .prim k=>if k=.uuid then 1+4 else rPrimT c false k+4
  | .list _ _ _ _=>0
  | .struct _ _ _ tags fs=>3+2+1+rFT c fs+rTagsT tags
def rVT (c:Ctx) (h:Hd):Ty→Nat
  | .prim k=>if k=.uuid then 1+4 else if h.enum then 3+4 else rPrimT c (decide (0≤h.null)) k+4
  | .list _ _ _ of=>4+1+rLenT c+rNilT h+3+2+5+5+rET c of+1+4
  | .struct _ _ _ tags fs=>(if 0≤h.null then 6+4+4+2+1 else 3+2+1)+rFT c fs+rTagsT tags
def rFT (c:Ctx):Fs→Nat
  | .nil=>0
  | .cons h ty r=>vTmps h+rVT c h ty+rFT c r
end
def rS:Option Int→Nat
  | none=>9
  | some _=>10
def rCtx:Option Int→Ctx
  | none=>⟨8,9,true⟩
  | some _=>⟨8,9,false⟩
def rT1 (t:Nat):Option Int→Nat
  | none=>t+9
  | some _=>t+12
end Go.Proofs.Ytjbbohfaihkolaa.K
namespace Go.Proofs.Ytjbbohfaihkolaa.K
open Go Go.RowKit Go.Proofs.Ytjbbohfaihkolaa.T
set_option linter.unusedSimpArgs false
set_option linter.unusedVariables false
def RdAt (TR:Nat) (w:World) (S:Option Nat) (rb:Nat):Option Bytes→Prop
  | none=>w.heap[rb]?=some (.cells #[.slice none 0 0,.bool true] TR (0,0))
  | some rest=>∃ base cap,w.heap[rb]?=some (.cells #[.slice base rest.length cap,.bool false] TR (0,0))∧rest.length≤cap ∧
      match S with
      | none=>base=none∧rest=[]
      | some sb=>∃ o,base=some ⟨sb,o,none⟩∧∀ j u,rest[j]?=some u→w.cell? ⟨sb,o+j,none⟩=some (cell u)
structure Only (rb:Nat) (w w':World):Prop where
  os:w'.os=w.os
  tape:w'.tape=w.tape
  output:w'.output=w.output
  size:w.heap.size≤w'.heap.size
  block:∀ k,k < w.heap.size→k ≠ rb→w'.heap[k]?=w.heap[k]?
theorem Only.refl (rb:Nat) (w:World):Only rb w w:=⟨rfl,rfl,rfl,Nat.le_refl _,fun _ _ _=>rfl⟩
theorem Only.trans {rb:Nat} {a b c:World} (h:Only rb a b) (k:Only rb b c):Only rb a c :=
  ⟨k.os.trans h.os,k.tape.trans h.tape,k.output.trans h.output,Nat.le_trans h.size k.size,fun i hi hn=>(k.block i (Nat.lt_of_lt_of_le hi h.size) hn).trans (h.block i hi hn)⟩
theorem Only.alloc {rb:Nat} {a w:World} (h:Only rb a w) (o:Obj):Only rb a (w.alloc o) :=
  h.trans ⟨rfl,rfl,rfl,by simp,fun k hk _=>Below.heap_alloc _ _ _ hk⟩
theorem Only.drew {rb:Nat} {a w:World} (h:Only rb a w):Only rb a w.drew:=⟨h.os,h.tape,h.output,h.size,h.block⟩
theorem Only.setRow {rb:Nat} {a w:World} (h:Only rb a w) (cs:Array Value):Only rb a (w.setRow rb cs) :=
  h.trans ⟨rfl,rfl,rfl,by simp,fun k _ hn=>setRow_other _ _ _ _ hn⟩
theorem Only.own {rb b:Nat} {a w:World} (h:Only rb a w) (hb:a.heap.size≤b) (cs:Array Value):Only rb a (w.setRow b cs) :=
  ⟨h.os,h.tape,h.output,by simpa using h.size,fun k hk hn=>(setRow_other _ _ _ _ (by omega)).trans (h.block k hk hn)⟩
theorem Only.below {rb B:Nat} {w w':World} (h:Only rb w w') (hB:B≤rb) (hs:B≤w.heap.size):Below B w w' :=
  ⟨h.os,h.tape,h.output,h.size,fun k hk=>h.block k (by omega) (by omega)⟩
theorem Only.cell {rb:Nat} {w w':World} (h:Only rb w w') {a:Addr} (hk:a.block < w.heap.size) (hn:a.block ≠ rb):w'.cell? a=w.cell? a:=World.cell?_of_block (h.block _ hk hn)
def after {α:Type} (st:Option Bytes) (p:Rd α):Option Bytes:=st.bind fun b=>(p b).map (·.2)
theorem after_ok {α:Type} {b r:Bytes} {x:α} {p:Rd α} (h:p b=some (x,r)):after (some b) p=some r:=by simp [after,h]
theorem after_rOk {α:Type} (st:Option Bytes) (x:α):after st (rOk x)=st:=by cases st <;> rfl
theorem after_then {α β:Type} (st:Option Bytes) (p:Rd α) (f:α→Rd β) {x:α} {b r:Bytes} (hs:st=some b) (h:p b=some (x,r)):after st (rThen p f)=after (some r) (f x):=by
  subst hs
  simp [after,rThen_of h]
def NewF (S:Option Nat) (w w':World):Nat→Prop:=fun k=>S=some k∨(w.heap.size≤k∧k < w'.heap.size)
def RC {α:Type} (P:Program) (TR gb:Nat) (f:FuncId) (p:Rd α) (ty:Value→Prop) (ok:World→(Nat→Prop)→α→Value→Prop):Prop :=
  FnOK P f∧∀ (w:World) (S:Option Nat) (rb:Nat) (st:Option Bytes),gb < w.heap.size→RdAt TR w S rb st→(∀ sb,S=some sb→sb ≠ rb∧sb < w.heap.size) →
    Calls P f #[.pointer (some ⟨rb,0,none⟩)] w fun e w'=>∃ v,e=.returned v∧RdAt TR w' S rb (after st p)∧Only rb w w'∧ty v ∧
      ∀ b x r,st=some b→p b=some (x,r)→ok w' (NewF S w w') x v
def tyP (nul:Bool):PK→Value→Prop
  | .bool,v=>∃ x,v=.bool x
  | .i8,v=>∃ n,v=.int .i8 n
  | .i16,v=>∃ n,v=.int .i16 n
  | .i32,v=>∃ n,v=.int .i32 n
  | .i64,v=>∃ n,v=.int .i64 n
  | .u16,v=>∃ n,v=.int .u16 n
  | .uuid,v=>∃ bs:Bytes,bs.length=16∧v=.agg (cellsOf bs).toArray
  | .str,v=>if nul then ∃ q,v=.pointer q else ∃ s,v=.string s
  | .bytes,v=>∃ b l c,v=.slice b l c
def okP (nul:Bool) (k:PK) (w:World) (F:Nat→Prop) (t:Tree) (v:Value):Prop:=t.s.length≤most→(if k=.uuid then v=.agg (cellsOf (uuidOf t)).toArray else PVal w F nul t k v)
def PK.num:PK→Bool
  | .bool=>true | .i8=>true | .i16=>true | .i32=>true | .i64=>true | .u16=>true | _=>false
def TagsV (w:World) (F:Nat→Prop) (u:List (Nat × Bytes)) (m:Value):Prop :=
  (m=.map none∧u=[])∨∃ r es clock,m=.map (some r)∧F r∧w.heap[r]?=some (.map es clock)∧TagsEs w F es clock u
structure KR (P:Program) (I:RIds) (TR gb:Nat) (err:Value) (Gl:World→Prop):Prop where
  num:∀ k,PK.num k=true→rNum I k ≠ 0→RC P TR gb (rNum I k) (pPrim false false k) (tyP false k) (okP false k)
  uuid:I.rUuid ≠ 0→RC P TR gb I.rUuid (pPrim false false .uuid) (tyP false .uuid) (okP false .uuid)
  str:I.rStr ≠ 0→RC P TR gb I.rStr (pPrim false false .str) (tyP false .str) (okP false .str)
  cstr:I.rCStr ≠ 0→RC P TR gb I.rCStr (pPrim true false .str) (tyP false .str) (okP false .str)
  nstr:I.rNStr ≠ 0→RC P TR gb I.rNStr (pPrim false true .str) (tyP true .str) (okP true .str)
  cnstr:I.rCNStr ≠ 0→RC P TR gb I.rCNStr (pPrim true true .str) (tyP true .str) (okP true .str)
  bytes:I.rBytes ≠ 0→RC P TR gb I.rBytes (pPrim false false .bytes) (tyP false .bytes) (okP false .bytes)
  cbytes:I.rCBytes ≠ 0→RC P TR gb I.rCBytes (pPrim true false .bytes) (tyP false .bytes) (okP false .bytes)
  nbytes:I.rNBytes ≠ 0→RC P TR gb I.rNBytes (pPrim false true .bytes) (tyP true .bytes) (okP true .bytes)
  arr:I.rArr ≠ 0→RC P TR gb I.rArr (pLen false) (fun v=>∃ n,v=.int .i32 n) (fun _ _ n v=>v=.int .i32 n)
  carr:I.rCArr ≠ 0→RC P TR gb I.rCArr (pLen true) (fun v=>∃ n,v=.int .i32 n) (fun _ _ n v=>v=.int .i32 n)
  tags:I.rTags ≠ 0→RC P TR gb I.rTags (pTags true) (fun v=>∃ m,v=.agg #[m]∧m.oneCell'=true) (fun w F u v=>∃ m,v=.agg #[m]∧TagsV w F u m)
  okF:I.rOk ≠ 0→FnOK P I.rOk
  ok:I.rOk ≠ 0→∀ (w:World) (S:Option Nat) (rb:Nat) (st:Option Bytes),RdAt TR w S rb st→Calls P I.rOk #[.pointer (some ⟨rb,0,none⟩)] w fun e w'=>e=.returned (.bool st.isSome)∧w'=w
  complF:FnOK P I.rCompl
  compl:∀ (w:World) (S:Option Nat) (rb:Nat) (st:Option Bytes),Gl w→RdAt TR w S rb st→Calls P I.rCompl #[.pointer (some ⟨rb,0,none⟩)] w fun e w'=>e=.returned (if st.isSome then .nilIface else err)∧w'=w
end Go.Proofs.Ytjbbohfaihkolaa.K
namespace Go.Proofs.Ytjbbohfaihkolaa.K
open Go Go.RowKit Go.Proofs.Ytjbbohfaihkolaa.T
set_option linter.unusedSimpArgs false
set_option linter.unusedVariables false
structure DSt where
  at_:List (Nat × Nat)
  out:List (Nat × Value)
def DSt.look (s:DSt) (t:Nat):Option Nat:=(s.at_.find? fun x=>x.1 == t).map (·.2)
def DSt.put (s:DSt) (t x:Nat):DSt:=⟨(t,x) :: s.at_,s.out⟩
def dOp (P:Program) (N n:Nat) (s:DSt):SOp→Option DSt
  | ⟨some t,.move (.tmp x),none⟩=>if t < N then (s.look x).map (s.put t) else none
  | ⟨some t,.assign (.tmp x),none⟩=>if t < N then (s.look x).map (s.put t) else none
  | ⟨some t,.nilCheck (.tmp x),none⟩=>if t < N then (s.look x).map (s.put t) else none
  | ⟨some t,.fieldAddr S (.tmp x) f,none⟩=>if t < N then (s.look x).bind fun o=>(fieldOff P S f).map fun off=>s.put t (o+off) else none
  | ⟨none,.store T (.tmp x) (.const v),none⟩=>if oneB P T && v.oneCell' then (s.look x).bind fun o=>if o < n then some ⟨s.at_,s.out ++ [(o,v)]⟩ else none else none
  | _=>none
def dOps (P:Program) (N n:Nat):DSt→List SOp→Option DSt
  | s,[]=>some s
  | s,o :: r=>(dOp P N n s o).bind fun s'=>dOps P N n s' r
def dRun (P:Program) (N n:Nat):DSt→SC→Option DSt
  | s,.skip=>some s
  | s,.reg l=>dOps P N n s l
  | s,.seq a b=>(dRun P N n s a).bind fun s'=>dRun P N n s' b
  | _,_=>none
def dSetAll (o:Nat):List (Nat × Value)→Array Value→Array Value
  | [],cs=>cs
  | x :: r,cs=>dSetAll o r (cs.setIfInBounds (o+x.1) x.2)
theorem dSetAll_append (o:Nat):∀ (l r:List (Nat × Value)) (cs:Array Value),dSetAll o (l ++ r) cs=dSetAll o r (dSetAll o l cs)
  | [],_,_=>rfl
  | x :: l,r,cs=>dSetAll_append o l r _
theorem dSetAll_size (o:Nat):∀ (l:List (Nat × Value)) (cs:Array Value),(dSetAll o l cs).size=cs.size
  | [],_=>rfl
  | x :: l,cs=>by simp [dSetAll,dSetAll_size o l]
structure DInv (N:Nat) (w0:World) (b o:Nat) (cs:Array Value) (T:TypeId) (s:DSt) (a:Act) (w:World):Prop where
  size:a.tmps.size=N
  defers:a.defers=[]
  slots:∀ t x,s.look t=some x→getT a t=.pointer (some ⟨b,o+x,none⟩)
  world:w=w0.setRow b (dSetAll o s.out cs)
  row:w.heap[b]?=some (.cells (dSetAll o s.out cs) T (0,0))
theorem dPut {N:Nat} {w0 w:World} {b o x t:Nat} {cs:Array Value} {T:TypeId} {s:DSt} {a:Act} {v:Value} (h:DInv N w0 b o cs T s a w) (ht:t < N) (hv:v=.pointer (some ⟨b,o+x,none⟩)):DInv N w0 b o cs T (s.put t x) (a.put (some t) v) w:=by
  subst hv
  refine ⟨by rw [sPu];exact h.size,by rw [dPu];exact h.defers,fun t' x' hx=>?_,h.world,h.row⟩
  have hsz:=h.size
  simp only [DSt.put,DSt.look,List.find?_cons] at hx
  by_cases e:t=t'
  · subst e
    simp at hx
    subst hx
    rw [gTp (by omega)]
  · rw [gTn (Ne.symm e)]
    have:(t == t')=false:=by simpa using e
    simp only [this] at hx
    exact h.slots t' x' hx
theorem dOps_ok {P:Program} {N n:Nat} {w0:World} {b o:Nat} {cs:Array Value} {T:TypeId} (hn:o+n≤cs.size) {all:List SOp} {K:Act→World→Prop} {s':DSt} (hK:∀ a w,DInv N w0 b o cs T s' a w→K a w) :
    ∀ (l:List SOp) (s:DSt) (a:Act) (w:World),dOps P N n s l=some s'→DInv N w0 b o cs T s a w→opsw P all l K a w
  | [],s,a,w,h,hi=>by
    simp only [dOps,Option.some.injEq] at h
    subst h
    exact hK a w hi
  | op :: r,s,a,w,h,hi=>by
    simp only [dOps] at h
    obtain ⟨s1,h1,h2⟩:=Option.bind_eq_some_iff.1 h
    have ih:=fun a w=>dOps_ok hn (all:=all) hK r s1 a w h2
    unfold dOp at h1
    split at h1 <;> try (simp at h1;done)
    · rename_i t x
      split at h1 <;> try (simp at h1;done)
      rename_i ht
      obtain ⟨y,hy,rfl⟩:=Option.map_eq_some_iff.1 h1
      have hs:=hi.slots _ _ hy
      exact oNo rfl (opw_move (ih _ _ (dPut hi ht (by rw [eTm];exact hs))))
    · rename_i t x
      split at h1 <;> try (simp at h1;done)
      rename_i ht
      obtain ⟨y,hy,rfl⟩:=Option.map_eq_some_iff.1 h1
      have hs:=hi.slots _ _ hy
      exact oNo rfl (opw_assign (ih _ _ (dPut hi ht (by rw [eTm];exact hs))))
    · rename_i t x
      split at h1 <;> try (simp at h1;done)
      rename_i ht
      obtain ⟨y,hy,rfl⟩:=Option.map_eq_some_iff.1 h1
      have hs:=hi.slots _ _ hy
      exact oNo rfl (opw_nilCheck (by rw [eTm];exact hs) (ih _ _ (dPut hi ht rfl)))
    · rename_i t S x f
      split at h1 <;> try (simp at h1;done)
      rename_i ht
      obtain ⟨y,hy,h1⟩:=Option.bind_eq_some_iff.1 h1
      obtain ⟨off,hoff,rfl⟩:=Option.map_eq_some_iff.1 h1
      have hs:=hi.slots _ _ hy
      exact oNo rfl (opw_field (fieldB_of hoff) (by rw [eTm];exact hs) (ih _ _ (dPut hi ht (by rw [Nat.add_assoc]))))
    · rename_i T' x v
      split at h1 <;> try (simp at h1;done)
      rename_i hT
      simp only [Bool.and_eq_true] at hT
      obtain ⟨y,hy,h1⟩:=Option.bind_eq_some_iff.1 h1
      split at h1 <;> try (simp at h1;done)
      rename_i hyn
      simp only [Option.some.injEq] at h1
      subst h1
      have hs:=hi.slots _ _ hy
      have hsz:=dSetAll_size o s.out cs
      have hlt:o+y < (dSetAll o s.out cs).size:=by omega
      refine oNo rfl (opw_store_one (ad:=⟨b,o+y,none⟩) (v:=v) (v0:=(dSetAll o s.out cs)[o+y]) hT.1 (by rw [eTm];exact hs) rfl hT.2 (by rw [cell_of_row _ _ _ _ _ _ hi.row];exact Array.getElem?_eq_getElem hlt) (by simp [World.frozen?,hi.row]) ?_)
      rw [pNo]
      refine ih _ _ ⟨hi.size,hi.defers,hi.slots,?_,?_⟩
      · rw [setCell_eq_setRow _ _ _ _ _ _ _ hi.row,dSetAll_append,hi.world,setRow_setRow]
        rfl
      · rw [setCell_eq_setRow _ _ _ _ _ _ _ hi.row,dSetAll_append]
        exact setRow_heap _ _ _ _ _ _ hi.row
theorem dRun_ok {P:Program} {N n:Nat} {w0:World} {b o:Nat} {cs:Array Value} {T:TypeId} (hn:o+n≤cs.size):∀ (c:SC) (s s':DSt) (a:Act) (w:World) (Q:Exit→Act→World→Prop),dRun P N n s c=some s'→DInv N w0 b o cs T s a w →
    (∀ a w,DInv N w0 b o cs T s' a w→Q .normal a w)→c.wp P Q a w
  | .skip,s,s',a,w,Q,h,hi,hQ=>by
    simp only [dRun,Option.some.injEq] at h
    subst h
    exact SC.wp_skip (hQ a w hi)
  | .reg l,s,s',a,w,Q,h,hi,hQ=>by
    simp only [dRun] at h
    exact SC.wp_reg (dOps_ok hn hQ l s a w h hi)
  | .seq x y,s,s',a,w,Q,h,hi,hQ=>by
    simp only [dRun] at h
    obtain ⟨s1,h1,h2⟩:=Option.bind_eq_some_iff.1 h
    refine SC.wp_seq (dRun_ok hn x s s1 a w _ h1 hi fun a' w' hi'=>?_)
    exact dRun_ok hn y s1 s' a' w' Q h2 hi' hQ
  | .dreg _ _,_,_,_,_,_,h,_,_=>by simp [dRun] at h
  | .cond _ _ _,_,_,_,_,_,h,_,_=>by simp [dRun] at h
  | .block _ _,_,_,_,_,_,h,_,_=>by simp [dRun] at h
  | .loop _,_,_,_,_,_,h,_,_=>by simp [dRun] at h
  | .exit _,_,_,_,_,_,h,_,_=>by simp [dRun] at h
  | .ret,_,_,_,_,_,h,_,_=>by simp [dRun] at h
  | .label _,_,_,_,_,_,h,_,_=>by simp [dRun] at h
  | .goto _,_,_,_,_,_,h,_,_=>by simp [dRun] at h
  | .scope _,_,_,_,_,_,h,_,_=>by simp [dRun] at h
  | .other,_,_,_,_,_,h,_,_=>by simp [dRun] at h
def DefAt (P:Program) (f n:Nat) (out:List (Nat × Value)):Prop :=
  FnOK P f∧∀ (w:World) (b o:Nat) (cs:Array Value) (T:TypeId),w.heap[b]?=some (.cells cs T (0,0))→o+n≤cs.size →
    Calls P f #[.pointer (some ⟨b,o,none⟩)] w fun e w'=>e=.returned (.tuple #[])∧w'=w.setRow b (dSetAll o out cs)
def dOut (P:Program) (N n:Nat) (c:SC):Option (List (Nat × Value)):=(dRun P N n ⟨[(0,0)],[]⟩ c).map (·.out)
theorem defAt_ok {P : Program} {f n N : Nat} {fn : Func} {c : SC} {out : List (Nat × Value)} (hf : P.funcs[f]? = some fn) (hb : fn.body.map strip = some c) (hnm : (fn.name == "runtime.NumGoroutine") = false) (hN : fn.ntmps = N) (h1 : 1 ≤ N) (hr : fn.results = #[])
    (hd:dOut P N n c=some out):DefAt P f n out:=by
  refine ⟨fnOK_of hf hb hnm,fun w b o cs T hc hn=>?_⟩
  obtain ⟨s,hs,rfl⟩:=Option.map_eq_some_iff.1 hd
  refine fCa hf hb hN (by simpa using h1) fun a0 hsz hdf ha=>?_
  have h0:=ha 0 _ rfl
  refine dRun_ok (w0:=w) hn c _ s a0 w _ hs ⟨hsz,hdf,fun t x hx=>?_,?_,hc⟩ fun a w' hi=>?_
  · simp only [DSt.look,List.find?_cons,List.find?_nil] at hx
    by_cases e:0=t
    · subst e
      simp at hx
      subst hx
      simpa using h0
    · have:(0 == t)=false:=by simpa using e
      simp [this] at hx
  · exact (setRow_self _ _ _ _ _ hc).symm
  · refine ⟨hi.defers,.tuple #[],by simp [results,hr],rfl,hi.world⟩
end Go.Proofs.Ytjbbohfaihkolaa.K
namespace Go.Proofs.Ytjbbohfaihkolaa.K
open Go Go.RowKit Go.Proofs.Ytjbbohfaihkolaa.T
set_option linter.unusedVariables false
set_option linter.unusedSimpArgs false
def szTy (nul:Bool):Ty→Nat
  | .prim k=>if k=.uuid then 16 else 1
  | .list _ _ _ _=>1
  | .struct _ size _ _ _=>if nul then 1 else size
def nuOf (h:Hd):Bool:=decide (0≤h.null)
mutual
def layTy (nul:Bool):Ty→Bool
  | .prim _=>true
  | .list _ _ size of=>layTy false of && decide (szTy false of≤size)
  | .struct _ size _ tags fs=>layFs 0 (match tags with | none=>size | some (_,off)=>off) fs && (match tags with | none=>true | some (_,off)=>decide (off < size))
def layFs (lo n:Nat):Fs→Bool
  | .nil=>decide (lo≤n)
  | .cons h ty r=>decide (lo≤h.off) && decide (h.off+szTy (nuOf h) ty≤n) && layTy (nuOf h) ty && layFs (h.off+szTy (nuOf h) ty) n r
end
section
variable {G:List (Nat × Bytes)→Prop} {w w':World} {F F':Nat→Prop}
end
mutual
def frTyB (get:Nat→Option Value) (nul:Bool):Ty→Nat→Bool
  | .prim _,_=>true
  | .list _ _ _ _,o=>match get o with | some (.slice none 0 0)=>true | _=>false
  | .struct _ _ _ _ fs,o=>if nul then (match get o with | some (.pointer none)=>true | _=>false) else frFsB get fs o
def frFsB (get:Nat→Option Value):Fs→Nat→Bool
  | .nil,_=>true
  | .cons h ty r,o=>frTyB get (nuOf h) ty (o+h.off) && frFsB get r o
end
end Go.Proofs.Ytjbbohfaihkolaa.K
namespace Go.Proofs.Ytjbbohfaihkolaa.K
open Go Go.RowKit Go.Proofs.Ytjbbohfaihkolaa.T
set_option linter.unusedVariables false
set_option linter.unusedSimpArgs false
structure RX where
  P:Program
  I:RIds
  TR:Nat
  S:Option Nat
  rb:Nat
  G:List (Nat × Bytes)→Prop
  c:Ctx
  w0:World
  B:Nat
  ver:Int
  flex:Bool
  T0:Nat
  N:Nat
  err:Value
  Gl:World→Prop
  gb:Nat
structure RX.ok (X:RX):Prop where
  kr:KR X.P X.I X.TR X.gb X.err X.Gl
  hgb:X.gb < X.B
  cver:X.c.ver=8
  ten:9 < X.T0
  never:X.c.never=true→X.flex=false
  hB:X.B≤X.rb
  hver:0≤X.ver
  G:∀ u,X.G u
  gl:∀ w,Below X.B X.w0 w→X.Gl w
structure RInv (X:RX) (a:Act) (w:World) (st:Option Bytes):Prop where
  size:a.tmps.size=X.N
  defers:a.defers=[]
  uns:getT a 2=.bool false
  rd:getT a 7=.pointer (some ⟨X.rb,0,none⟩)
  ver:getT a 8=.int .i16 X.ver
  flex:X.c.never=false→getT a 9=.bool X.flex
  at_:RdAt X.TR w X.S X.rb st
  src:∀ sb,X.S=some sb→sb ≠ X.rb∧sb < w.heap.size
  below:Below X.B X.w0 w
  heap:X.B≤w.heap.size
theorem RdAt.lt {TR rb:Nat} {w:World} {S:Option Nat} {st:Option Bytes} (h:RdAt TR w S rb st):rb < w.heap.size:=by
  cases st with
  | none=>exact (Array.getElem?_eq_some_iff.1 h).1
  | some rest =>
    obtain ⟨base,cap,h1,_⟩:=h
    exact (Array.getElem?_eq_some_iff.1 h1).1
theorem RdAt.frame {TR rb:Nat} {w w':World} {S:Option Nat} {st:Option Bytes} (h:RdAt TR w S rb st) (h1:w'.heap[rb]?=w.heap[rb]?) (h2:∀ sb,S=some sb→w'.heap[sb]?=w.heap[sb]?):RdAt TR w' S rb st:=by
  cases st with
  | none =>
    simp only [RdAt] at h ⊢
    rw [h1]
    exact h
  | some rest =>
    simp only [RdAt] at h ⊢
    obtain ⟨base,cap,q1,q2,q3⟩:=h
    refine ⟨base,cap,by rw [h1];exact q1,q2,?_⟩
    cases S with
    | none=>exact q3
    | some sb =>
      obtain ⟨o,k1,k2⟩:=q3
      exact ⟨o,k1,fun j u hu=>by rw [World.cell?_of_block (h2 sb rfl)];exact k2 j u hu⟩
def RSame (X:RX) (a a':Act) (lo t:Nat):Prop:=∀ s,(s < lo∨(X.T0≤s∧s < t))→getT a' s=getT a s
theorem RSame.refl (X:RX) (a:Act) (lo t:Nat):RSame X a a lo t:=fun _ _=>rfl
theorem RSame.trans {X:RX} {a b c:Act} {lo t lo' t':Nat} (h:RSame X a b lo t) (h':RSame X b c lo' t') (hl:lo≤lo') (ht:t≤t'):RSame X a c lo t :=
  fun s h1=>(h' s (by omega)).trans (h s h1)
theorem RSame.mono {X:RX} {a b:Act} {lo t lo' t':Nat} (h:RSame X a b lo' t') (hl:lo≤lo') (ht:t≤t'):RSame X a b lo t :=
  fun s h1=>h s (by omega)
structure Foot (rb b lo hi:Nat) (w w':World):Prop where
  size:w.heap.size≤w'.heap.size
  block:∀ k,k < w.heap.size→k ≠ rb→k ≠ b→w'.heap[k]?=w.heap[k]?
  row:∀ cs T,w.heap[b]?=some (.cells cs T (0,0))→∃ cs',w'.heap[b]?=some (.cells cs' T (0,0))∧cs'.size=cs.size∧∀ j,(j < lo∨hi≤j)→cs'[j]?=cs[j]?
theorem Foot.refl (rb b lo hi:Nat) (w:World):Foot rb b lo hi w w:=⟨Nat.le_refl _,fun _ _ _ _=>rfl,fun cs T h=>⟨cs,h,rfl,fun _ _=>rfl⟩⟩
theorem Foot.mono {rb b lo hi lo' hi':Nat} {w w':World} (h:Foot rb b lo hi w w') (h1:lo'≤lo) (h2:hi≤hi'):Foot rb b lo' hi' w w' :=
  ⟨h.size,h.block,fun cs T hc=>by
    obtain ⟨cs',q1,q2,q3⟩:=h.row cs T hc
    exact ⟨cs',q1,q2,fun j hj=>q3 j (by omega)⟩⟩
theorem Foot.trans {rb b lo hi:Nat} {w w1 w2:World} (h:Foot rb b lo hi w w1) (h':Foot rb b lo hi w1 w2):Foot rb b lo hi w w2 :=
  ⟨Nat.le_trans h.size h'.size,fun k k1 k2 k3=>(h'.block k (Nat.lt_of_lt_of_le k1 h.size) k2 k3).trans (h.block k k1 k2 k3),fun cs T hc=>by
    obtain ⟨cs',q1,q2,q3⟩:=h.row cs T hc
    obtain ⟨cs2,r1,r2,r3⟩:=h'.row cs' T q1
    exact ⟨cs2,r1,r2.trans q2,fun j hj=>(r3 j hj).trans (q3 j hj)⟩⟩
theorem Foot.other {rb b lo hi b' lo' hi':Nat} {w w1 w2:World} (h:Foot rb b lo hi w w1) (h':Foot rb b' lo' hi' w1 w2) (hb':w.heap.size≤b') (hb:b < w.heap.size) (hn:b ≠ rb):Foot rb b lo hi w w2 :=
  ⟨Nat.le_trans h.size h'.size,fun k k1 k2 k3=>(h'.block k (Nat.lt_of_lt_of_le k1 h.size) k2 (by omega)).trans (h.block k k1 k2 k3),fun cs T hc=>by
    obtain ⟨cs',q1,q2,q3⟩:=h.row cs T hc
    exact ⟨cs',by rw [h'.block b (Nat.lt_of_lt_of_le hb h.size) hn (by omega)];exact q1,q2,q3⟩⟩
def RowAt (w:World) (b q n:Nat):Prop:=∃ cs T,w.heap[b]?=some (.cells cs T (0,0))∧q+n≤cs.size
theorem RowAt.mono {w:World} {b q n q' n':Nat} (h:RowAt w b q n) (h1:q'+n'≤q+n):RowAt w b q' n':=by
  obtain ⟨cs,T,q1,q2⟩:=h
  exact ⟨cs,T,q1,by omega⟩
theorem RowAt.lt {w:World} {b q n:Nat} (h:RowAt w b q n):b < w.heap.size:=by
  obtain ⟨cs,T,q1,q2⟩:=h
  exact (Array.getElem?_eq_some_iff.1 q1).1
theorem Foot.cell {rb b lo hi q n:Nat} {w w':World} (h:Foot rb b lo hi w w') (hr:RowAt w b q n) {j:Nat} (hj:j < lo∨hi≤j):w'.cell? ⟨b,j,none⟩=w.cell? ⟨b,j,none⟩:=by
  obtain ⟨cs,T,q1,q2⟩:=hr
  obtain ⟨cs',r1,r2,r3⟩:=h.row cs T q1
  rw [cell_of_row _ _ _ _ _ _ q1,cell_of_row _ _ _ _ _ _ r1]
  exact r3 j hj
structure Opn (X:RX) (O:Nat→Prop) (b:Nat) (w:World):Prop where
  orb:O X.rb
  ob:O b
  lt:∀ k,O k→k < w.heap.size
  src:∀ sb,X.S=some sb→¬ O sb
  ne:b ≠ X.rb
  hB:X.B≤b
theorem Opn.mono {X:RX} {O:Nat→Prop} {b:Nat} {w w':World} (h:Opn X O b w) (hs:w.heap.size≤w'.heap.size):Opn X O b w' :=
  ⟨h.orb,h.ob,fun k hk=>Nat.lt_of_lt_of_le (h.lt k hk) hs,h.src,h.ne,h.hB⟩
section
variable {X:RX} {a a':Act} {w w':World} {st:Option Bytes} {Q:Exit→Act→World→Prop}
theorem RInv.act (h:RInv X a w st) (hs:a'.tmps.size=a.tmps.size) (hd:a'.defers=a.defers) (hk:∀ s,s < 10→getT a' s=getT a s):RInv X a' w st :=
  ⟨hs.trans h.size,hd.trans h.defers,(hk 2 (by omega)).trans h.uns,(hk 7 (by omega)).trans h.rd,(hk 8 (by omega)).trans h.ver,fun hn=>(hk 9 (by omega)).trans (h.flex hn),h.at_,h.src,h.below,h.heap⟩
theorem RInv.alloc (h:RInv X a w st) (o:Obj):RInv X a (w.alloc o) st:=by
  have hlt:=h.at_.lt
  exact ⟨h.size,h.defers,h.uns,h.rd,h.ver,h.flex,
    h.at_.frame (Below.heap_alloc _ _ _ hlt) (fun sb hsb=>Below.heap_alloc _ _ _ (h.src sb hsb).2),
    fun sb hsb=>⟨(h.src sb hsb).1,by simp;have:=(h.src sb hsb).2;omega⟩,h.below.alloc h.heap o,by simp;have:=h.heap;omega⟩
theorem RInv.drew (h:RInv X a w st):RInv X a w.drew st:=by
  refine ⟨h.size,h.defers,h.uns,h.rd,h.ver,h.flex,h.at_.frame rfl (fun _ _=>rfl),h.src,h.below.drew,h.heap⟩
theorem RInv.setRow (h:RInv X a w st) {b:Nat} (hn:b ≠ X.rb) (hS:X.S ≠ some b) (hB:X.B≤b) (cs:Array Value):RInv X a (w.setRow b cs) st :=
  ⟨h.size,h.defers,h.uns,h.rd,h.ver,h.flex,
    h.at_.frame (setRow_other _ _ _ _ (Ne.symm hn)) (fun sb hsb=>setRow_other _ _ _ _ (fun e=>hS (by rw [hsb,e]))),
    fun sb hsb=>⟨(h.src sb hsb).1,by simpa using (h.src sb hsb).2⟩,h.below.trans ⟨rfl,rfl,rfl,by simp,fun k hk=>setRow_other _ _ _ _ (by omega)⟩,by simpa using h.heap⟩
end
end Go.Proofs.Ytjbbohfaihkolaa.K
