/- Generic texts: Z1 R1 R2 D1 K9 K10 R3 R4 R5. No condition. -/
import Derived.Test.YtcchakpiemhpeaaDoorN4
import Derived.ChangeArms
import Derived.Deep.Slices
import Derived.OpenShut
import Derived.Lib.AppendZeros
namespace Go.Proofs.YtcchakpiemhpeaaDoor.K
open Go Go.RowKit Go.Proofs.YtcchakpiemhpeaaDoor.T
open Go.ChangeShapes Go.WideShapes Go.Deep
set_option linter.unusedSimpArgs false
set_option linter.unusedVariables false
structure BulkC {H:Type} (B:DataW H→Nat):Prop where
  one:∀ d,1≤B d
  slice:∀ es sp,1+(es.map B).sum≤B (.slice es sp)
  agg:∀ ps,1+(ps.map B).sum≤B (.agg ps)
def sl8 (P:Program) (t:TypeId):Bool:=match P.underlying t with
  | some (.slice e)=>(match P.underlying e with | some (.int .u8)=>true | _=>false) && P.cellsOf e == 1 && P.cellsOf t == 1
  | _=>false
def isK (P:Program) (t:TypeId) (k:IntKind):Bool:=(match P.underlying t with | some (.int k')=>k' == k | _=>false) && P.cellsOf t == 1
def slO (P:Program) (t e:TypeId):Bool:=(match P.underlying t with | some (.slice e')=>e' == e | _=>false) && P.cellsOf t == 1
def isBo (P:Program) (t:TypeId):Bool:=(match P.underlying t with | some .bool=>true | _=>false) && P.cellsOf t == 1
def otB (P:Program) (T Tg:TypeId):Bool :=
  P.cellsOf T == 5 && P.cellsOf Tg == 2 &&
  (match P.underlying T with
   | some (.struct fs)=>(match fs.toList with
     | [f0,f1,f2,f3,f4]=>f0.offset == 0 && f1.offset == 1 && f2.offset == 2 && f3.offset == 3 && f4.offset == 4 && isK P f0.type .i64 && sl8 P f1.type && isBo P f2.type && slO P f3.type T && slO P f4.type Tg
     | _=>false)
   | _=>false) &&
  (match P.underlying Tg with
   | some (.struct fs)=>(match fs.toList with
     | [g0,g1]=>g0.offset == 0 && g1.offset == 1 && isK P g0.type .u32 && sl8 P g1.type
     | _=>false)
   | _=>false)
theorem sl8_of {P:Program} {t:TypeId} (h:sl8 P t=true):∃ e,P.underlying t=some (.slice e)∧P.underlying e=some (.int .u8)∧P.cellsOf e=1∧P.cellsOf t=1:=by
  unfold sl8 at h
  split at h
  · rename_i e he
    simp only [Bool.and_eq_true,beq_iff_eq] at h
    obtain ⟨⟨h1,h2⟩,h3⟩:=h
    split at h1
    · rename_i h4;exact ⟨e,he,h4,h2,h3⟩
    · cases h1
  · cases h
theorem sum_ones {α:Type} (f:α→Nat) (h:∀ x,1≤f x):∀ l:List α,l.length≤(l.map f).sum
  | []=>by simp
  | x :: r=>by simp only [List.map_cons,List.sum_cons,List.length_cons];have:=h x;have:=sum_ones f h r;omega
section
variable {H:Type} {enc:TypeId × Value→H} {P:Program} {w:World} {B:DataW H→Nat}
theorem addr_of {a:Addr} {n:Nat} {cs:List Value} (h:w.cells? 0 a n=some cs) (hn:0 < n):a=⟨a.block,a.off,none⟩∧a.block < w.heap.size:=by
  obtain ⟨_,hl,hc⟩:=World.cells?_some h
  have h0:=hc 0 hn
  have e0:a.add 0=a:=by simp [Addr.add]
  rw [e0,List.getElem?_eq_getElem (by omega)] at h0
  have hs:a.spot=none∧a.block < w.heap.size:=by
    simp only [World.cell?] at h0
    split at h0
    · rename_i hb
      split at h0
      · cases h0
      · rename_i hs
        exact ⟨by cases hq:a.spot <;> simp_all,(Array.getElem?_eq_some_iff.1 hb).1⟩
    · cases h0
  refine ⟨?_,hs.2⟩
  cases a
  simp only at hs
  rw [hs.1]
theorem range_of {b o n:Nat} {cs:List Value} (h:w.cells? 0 ⟨b,o,none⟩ n=some cs):rangeV w b o n=some cs:=by
  obtain ⟨_,hl,hc⟩:=World.cells?_some h
  rw [← hl]
  refine rangeV_of cs o fun j v hj=>?_
  have hlt:j < cs.length:=(List.getElem?_eq_some_iff.1 hj).1
  rw [← hj,← hc j (by omega),add_none]
theorem open_els {t e k fuel:Nat} {cs:List Value} {x:DataW H × List MemPlace} (ht:P.underlying t=some (.slice e)) (hk:P.cellsOf e=k) (hk0:0 < k) (h:DataW.trod enc P w 0 (fun _=>true) true fuel t cs=some x) (hB:BulkC B) :
    ∃ (base:Option Addr) (cap n b o:Nat) (es:List (DataW H × List MemPlace)),fuel=n+1∧cs=[.slice base es.length cap]∧es.length≤cap∧1+(es.map fun y=>B y.1).sum≤B x.1∧(es ≠ []→base=some ⟨b,o,none⟩∧b < w.heap.size) ∧
      ∀ (i:Nat) (y:DataW H × List MemPlace),es[i]?=some y→∃ cs',rangeV w b (o+i * k) k=some cs'∧cs'.length=k∧DataW.trod enc P w 0 (fun _=>true) true n e cs'=some y:=by
  rcases DataW.trod_slice ht h with ⟨rfl,rfl⟩ | ⟨a,len,cap,elems,rest,n,rfl,rfl,rfl,hb,hl,hm,hlen,hel,hsp,hns⟩
  · cases fuel with
    | zero=>simp [DataW.trod] at h
    | succ n=>exact ⟨none,0,n,0,0,[],rfl,rfl,Nat.le_refl _,by simpa using hB.one _,fun h=>absurd rfl h,fun i y hy=>by simp at hy⟩
  · subst hk
    have hev:∀ (i:Nat) (y:DataW H × List MemPlace),elems[i]?=some y→∃ cs',w.cells? 0 (a.add (i * P.cellsOf e)) (P.cellsOf e)=some cs'∧DataW.trod enc P w 0 (fun _=>true) true n e cs'=some y:=by
      intro i y hy
      have hi:i < len:=by rw [← hlen];exact (List.getElem?_eq_some_iff.1 hy).1
      have:=hel i hi
      rw [hy] at this
      exact Option.bind_eq_some_iff.1 this
    have hsum:1+(elems.map fun y=>B y.1).sum≤B (.slice (elems.map (·.1)) (rest.map (·.1))):=by
      have:=hB.slice (elems.map (·.1)) (rest.map (·.1))
      rwa [List.map_map] at this
    refine ⟨some a,cap,n,a.block,a.off,elems,rfl,by rw [hlen],by omega,hsum,fun hne=>?_,fun i y hy=>?_⟩
    · obtain ⟨y,hy⟩:∃ y,elems[0]?=some y:=by
        cases elems with
        | nil=>exact absurd rfl hne
        | cons y r=>exact ⟨y,rfl⟩
      obtain ⟨cs',hc,_⟩:=hev 0 y hy
      rw [Nat.zero_mul,show a.add 0=a by simp [Addr.add]] at hc
      obtain ⟨e1,e2⟩:=addr_of hc hk0
      exact ⟨by rw [← e1],e2⟩
    · have ha:a=⟨a.block,a.off,none⟩:=by
        obtain ⟨y0,hy0⟩:∃ y,elems[0]?=some y:=by
          cases elems with
          | nil=>simp at hy
          | cons y r=>exact ⟨y,rfl⟩
        obtain ⟨cs',hc,_⟩:=hev 0 y0 hy0
        rw [Nat.zero_mul,show a.add 0=a by simp [Addr.add]] at hc
        exact (addr_of hc hk0).1
      obtain ⟨cs',hc,h2⟩:=hev i y hy
      rw [ha,add_none] at hc
      exact ⟨cs',range_of hc,(World.cells?_some hc).2.1,h2⟩
theorem open_u8s {t fuel:Nat} {cs:List Value} {x:DataW H × List MemPlace} (ht:sl8 P t=true) (h:DataW.trod enc P w 0 (fun _=>true) true fuel t cs=some x) (hB:BulkC B) :
    ∃ (base:Option Addr) (cap:Nat) (bs:Bytes),cs=[.slice base bs.length cap]∧bs.length≤cap∧1+bs.length≤B x.1∧BytesAt w (· < w.heap.size) base bs:=by
  obtain ⟨e,h1,h2,h3,_⟩:=sl8_of ht
  obtain ⟨base,cap,n,b,o,es,rfl,rfl,q1,q2,q3,q4⟩:=open_els h1 h3 (by decide) h hB
  obtain ⟨U,hU⟩:=choose_lt (α:=UInt8) (n:=es.length) (p:=fun i u=>w.cell? ⟨b,o+i,none⟩=some (cell u)) (fun i hi=>by
    obtain ⟨cs',c1,c2,c3⟩:=q4 i es[i] (List.getElem?_eq_getElem hi)
    obtain ⟨m,rfl,_,hwf⟩:=DataW.trod_int h2 c3
    have hbd:=bounds_u8 hwf
    obtain ⟨_,hcell⟩:=rangeV_get _ _ _ c1
    have hc:=hcell 0 _ rfl
    refine ⟨UInt8.ofNat m.toNat,?_⟩
    rw [Nat.mul_one,Nat.add_zero] at hc
    rw [hc]
    have:((UInt8.ofNat m.toNat).toNat:Int)=m:=by simp;omega
    simp only [cell,this])
  refine ⟨base,cap,(List.range es.length).map U,by simp,by simpa using q1,?_,?_⟩
  · have:=sum_ones (fun y:DataW H × List MemPlace=>B y.1) (fun y=>hB.one _) es
    simp only [List.length_map,List.length_range]
    omega
  · by_cases hne:es=[]
    · subst hne;exact .inl rfl
    · obtain ⟨e1,e2⟩:=q3 hne
      refine .inr ⟨b,o,e1,e2,fun j u hu=>?_⟩
      rw [List.getElem?_map] at hu
      obtain ⟨j',hj',rfl⟩:=Option.map_eq_some_iff.1 hu
      obtain ⟨hj1,hj2⟩:=List.getElem?_eq_some_iff.1 hj'
      rw [List.getElem_range] at hj2
      subst hj2
      exact hU j (by simpa using hj1)
end
end Go.Proofs.YtcchakpiemhpeaaDoor.K
namespace Go.Proofs.YtcchakpiemhpeaaDoor.K
open Go Go.Proofs.YtcchakpiemhpeaaDoor.T
set_option linter.unusedVariables false
set_option linter.unusedSimpArgs false
structure RIds where
  tRd:Nat
  tTags:Nat
  tI8:Nat
  tI16:Nat
  tI32:Nat
  tBool:Nat
  rBool:Nat
  rI8:Nat
  rI16:Nat
  rI32:Nat
  rI64:Nat
  rU16:Nat
  rUuid:Nat
  rStr:Nat
  rUStr:Nat
  rCStr:Nat
  rUCStr:Nat
  rNStr:Nat
  rUNStr:Nat
  rCNStr:Nat
  rUCNStr:Nat
  rBytes:Nat
  rCBytes:Nat
  rNBytes:Nat
  rArr:Nat
  rCArr:Nat
  rOk:Nat
  rCompl:Nat
  rTags:Nat
def rTextT (c:Ctx):Nat:=if c.never then 3 else 7
def rNum (I:RIds):PK→Nat
  | .bool=>I.rBool | .i8=>I.rI8 | .i16=>I.rI16 | .i32=>I.rI32 | .i64=>I.rI64 | .u16=>I.rU16 | _=>I.rNBytes
def rPrimT (c:Ctx) (nul:Bool) (k:PK):Nat:=if k=.str then rTextT c else if k=.bytes∧c.never=false then 3 else 1
def rTagsT (tags:Option (Nat × Nat)):Nat:=if tags.isSome then 5 else 0
def rLenT (c:Ctx):Nat:=if c.never then 1 else 3
def rNilT (h:Hd):Nat:=if 0≤h.null then 7 else 0
mutual
def rV:Hd→Ty→Nat
  | h,.prim _=>if h.enum then 3 else 1
  | _,.list _ _ _ of=>4+rVE of
  | h,.struct _ _ _ _ fs=>(if 0≤h.null then 3 else 2)+rVs fs
def rVE:Ty→Nat
  | .prim _=>1
  | .list _ _ _ _=>0
  | .struct _ _ _ _ fs=>2+rVs fs
def rVs:Fs→Nat
  | .nil=>0
  | .cons h ty r=>rV h ty+rVs r
end
mutual
def rET (c:Ctx):Ty→Nat
  | .prim k=>if k=.uuid then 1+4 else rPrimT c false k+4
  | .list _ _ _ _=>0
  | .struct _ _ _ tags fs=>3+2+1+rFT c fs+rTagsT tags
def rVT (c:Ctx) (h:Hd):Ty→Nat
  | .prim k=>if k=.uuid then 1+4 else if h.enum then 3+4 else rPrimT c (decide (0≤h.null)) k+4
  | .list _ _ _ of=>4+1+rLenT c+rNilT h+3+2+5+5+rET c of+1+4
  | .struct _ _ _ tags fs=>(if 0≤h.null then 6+4+4+2+1 else 3+2+1)+rFT c fs+rTagsT tags
def rFT (c:Ctx):Fs→Nat
  | .nil=>0
  | .cons h ty r=>vTmps h+rVT c h ty+rFT c r
end
def rS:Option Int→Nat
  | none=>9
  | some _=>10
def rCtx:Option Int→Ctx
  | none=>⟨8,9,true⟩
  | some _=>⟨8,9,false⟩
def rT1 (t:Nat):Option Int→Nat
  | none=>t+9
  | some _=>t+12
end Go.Proofs.YtcchakpiemhpeaaDoor.K
namespace Go.Proofs.YtcchakpiemhpeaaDoor.K
open Go Go.RowKit Go.Proofs.YtcchakpiemhpeaaDoor.T
set_option linter.unusedSimpArgs false
set_option linter.unusedVariables false
def RdAt (TR:Nat) (w:World) (S:Option Nat) (rb:Nat):Option Bytes→Prop
  | none=>w.heap[rb]?=some (.cells #[.slice none 0 0,.bool true] TR (0,0))
  | some rest=>∃ base cap,w.heap[rb]?=some (.cells #[.slice base rest.length cap,.bool false] TR (0,0))∧rest.length≤cap ∧
      match S with
      | none=>base=none∧rest=[]
      | some sb=>∃ o,base=some ⟨sb,o,none⟩∧∀ j u,rest[j]?=some u→w.cell? ⟨sb,o+j,none⟩=some (cell u)
structure Only (rb:Nat) (w w':World):Prop where
  os:w'.os=w.os
  tape:w'.tape=w.tape
  output:w'.output=w.output
  size:w.heap.size≤w'.heap.size
  block:∀ k,k < w.heap.size→k ≠ rb→w'.heap[k]?=w.heap[k]?
theorem Only.refl (rb:Nat) (w:World):Only rb w w:=⟨rfl,rfl,rfl,Nat.le_refl _,fun _ _ _=>rfl⟩
theorem Only.trans {rb:Nat} {a b c:World} (h:Only rb a b) (k:Only rb b c):Only rb a c :=
  ⟨k.os.trans h.os,k.tape.trans h.tape,k.output.trans h.output,Nat.le_trans h.size k.size,fun i hi hn=>(k.block i (Nat.lt_of_lt_of_le hi h.size) hn).trans (h.block i hi hn)⟩
theorem Only.alloc {rb:Nat} {a w:World} (h:Only rb a w) (o:Obj):Only rb a (w.alloc o) :=
  h.trans ⟨rfl,rfl,rfl,by simp,fun k hk _=>Below.heap_alloc _ _ _ hk⟩
theorem Only.drew {rb:Nat} {a w:World} (h:Only rb a w):Only rb a w.drew:=⟨h.os,h.tape,h.output,h.size,h.block⟩
theorem Only.setRow {rb:Nat} {a w:World} (h:Only rb a w) (cs:Array Value):Only rb a (w.setRow rb cs) :=
  h.trans ⟨rfl,rfl,rfl,by simp,fun k _ hn=>setRow_other _ _ _ _ hn⟩
theorem Only.own {rb b:Nat} {a w:World} (h:Only rb a w) (hb:a.heap.size≤b) (cs:Array Value):Only rb a (w.setRow b cs) :=
  ⟨h.os,h.tape,h.output,by simpa using h.size,fun k hk hn=>(setRow_other _ _ _ _ (by omega)).trans (h.block k hk hn)⟩
theorem Only.below {rb B:Nat} {w w':World} (h:Only rb w w') (hB:B≤rb) (hs:B≤w.heap.size):Below B w w' :=
  ⟨h.os,h.tape,h.output,h.size,fun k hk=>h.block k (by omega) (by omega)⟩
theorem Only.cell {rb:Nat} {w w':World} (h:Only rb w w') {a:Addr} (hk:a.block < w.heap.size) (hn:a.block ≠ rb):w'.cell? a=w.cell? a:=World.cell?_of_block (h.block _ hk hn)
def after {α:Type} (st:Option Bytes) (p:Rd α):Option Bytes:=st.bind fun b=>(p b).map (·.2)
theorem after_ok {α:Type} {b r:Bytes} {x:α} {p:Rd α} (h:p b=some (x,r)):after (some b) p=some r:=by simp [after,h]
theorem after_no {α:Type} {b:Bytes} {p:Rd α} (h:p b=none):after (some b) p=none:=by simp [after,h]
theorem after_rOk {α:Type} (st:Option Bytes) (x:α):after st (rOk x)=st:=by cases st <;> rfl
theorem after_then {α β:Type} (st:Option Bytes) (p:Rd α) (f:α→Rd β) {x:α} {b r:Bytes} (hs:st=some b) (h:p b=some (x,r)):after st (rThen p f)=after (some r) (f x):=by
  subst hs
  simp [after,rThen_of h]
theorem after_then_none {α β:Type} {st:Option Bytes} {p:Rd α} {f:α→Rd β} (h:after st p=none):after st (rThen p f)=none:=by
  cases st with
  | none=>rfl
  | some b =>
    cases hp:p b with
    | none=>simp [after,rThen,hp]
    | some z=>simp [after,hp] at h
def NewF (S:Option Nat) (w w':World):Nat→Prop:=fun k=>S=some k∨(w.heap.size≤k∧k < w'.heap.size)
def RC {α:Type} (P:Program) (TR gb:Nat) (f:FuncId) (p:Rd α) (ty:Value→Prop) (ok:World→(Nat→Prop)→α→Value→Prop):Prop :=
  FnOK P f∧∀ (w:World) (S:Option Nat) (rb:Nat) (st:Option Bytes),gb < w.heap.size→RdAt TR w S rb st→(∀ sb,S=some sb→sb ≠ rb∧sb < w.heap.size) →
    Calls P f #[.pointer (some ⟨rb,0,none⟩)] w fun e w'=>∃ v,e=.returned v∧RdAt TR w' S rb (after st p)∧Only rb w w'∧ty v ∧
      ∀ b x r,st=some b→p b=some (x,r)→ok w' (NewF S w w') x v
def tyP (nul:Bool):PK→Value→Prop
  | .bool,v=>∃ x,v=.bool x
  | .i8,v=>∃ n,v=.int .i8 n
  | .i16,v=>∃ n,v=.int .i16 n
  | .i32,v=>∃ n,v=.int .i32 n
  | .i64,v=>∃ n,v=.int .i64 n
  | .u16,v=>∃ n,v=.int .u16 n
  | .uuid,v=>∃ bs:Bytes,bs.length=16∧v=.agg (cellsOf bs).toArray
  | .str,v=>if nul then ∃ q,v=.pointer q else ∃ s,v=.string s
  | .bytes,v=>∃ b l c,v=.slice b l c
def okP (nul:Bool) (k:PK) (w:World) (F:Nat→Prop) (t:Tree) (v:Value):Prop:=t.s.length≤most→(if k=.uuid then v=.agg (cellsOf (uuidOf t)).toArray else PVal w F nul t k v)
def PK.num:PK→Bool
  | .bool=>true | .i8=>true | .i16=>true | .i32=>true | .i64=>true | .u16=>true | _=>false
def TagsV (w:World) (F:Nat→Prop) (u:List (Nat × Bytes)) (m:Value):Prop :=
  (m=.map none∧u=[])∨∃ r es clock,m=.map (some r)∧F r∧w.heap[r]?=some (.map es clock)∧TagsEs w F es clock u
structure KR (P:Program) (I:RIds) (TR gb:Nat) (err:Value) (Gl:World→Prop):Prop where
  num:∀ k,PK.num k=true→rNum I k ≠ 0→RC P TR gb (rNum I k) (pPrim false false k) (tyP false k) (okP false k)
  uuid:I.rUuid ≠ 0→RC P TR gb I.rUuid (pPrim false false .uuid) (tyP false .uuid) (okP false .uuid)
  str:I.rStr ≠ 0→RC P TR gb I.rStr (pPrim false false .str) (tyP false .str) (okP false .str)
  cstr:I.rCStr ≠ 0→RC P TR gb I.rCStr (pPrim true false .str) (tyP false .str) (okP false .str)
  nstr:I.rNStr ≠ 0→RC P TR gb I.rNStr (pPrim false true .str) (tyP true .str) (okP true .str)
  cnstr:I.rCNStr ≠ 0→RC P TR gb I.rCNStr (pPrim true true .str) (tyP true .str) (okP true .str)
  bytes:I.rBytes ≠ 0→RC P TR gb I.rBytes (pPrim false false .bytes) (tyP false .bytes) (okP false .bytes)
  cbytes:I.rCBytes ≠ 0→RC P TR gb I.rCBytes (pPrim true false .bytes) (tyP false .bytes) (okP false .bytes)
  nbytes:I.rNBytes ≠ 0→RC P TR gb I.rNBytes (pPrim false true .bytes) (tyP true .bytes) (okP true .bytes)
  arr:I.rArr ≠ 0→RC P TR gb I.rArr (pLen false) (fun v=>∃ n,v=.int .i32 n) (fun _ _ n v=>v=.int .i32 n)
  carr:I.rCArr ≠ 0→RC P TR gb I.rCArr (pLen true) (fun v=>∃ n,v=.int .i32 n) (fun _ _ n v=>v=.int .i32 n)
  tags:I.rTags ≠ 0→RC P TR gb I.rTags (pTags true) (fun v=>∃ m,v=.agg #[m]∧m.oneCell'=true) (fun w F u v=>∃ m,v=.agg #[m]∧TagsV w F u m)
  okF:I.rOk ≠ 0→FnOK P I.rOk
  ok:I.rOk ≠ 0→∀ (w:World) (S:Option Nat) (rb:Nat) (st:Option Bytes),RdAt TR w S rb st→Calls P I.rOk #[.pointer (some ⟨rb,0,none⟩)] w fun e w'=>e=.returned (.bool st.isSome)∧w'=w
  complF:FnOK P I.rCompl
  compl:∀ (w:World) (S:Option Nat) (rb:Nat) (st:Option Bytes),Gl w→RdAt TR w S rb st→Calls P I.rCompl #[.pointer (some ⟨rb,0,none⟩)] w fun e w'=>e=.returned (if st.isSome then .nilIface else err)∧w'=w
end Go.Proofs.YtcchakpiemhpeaaDoor.K
namespace Go.Proofs.YtcchakpiemhpeaaDoor.K
open Go Go.RowKit Go.Proofs.YtcchakpiemhpeaaDoor.T
set_option linter.unusedSimpArgs false
set_option linter.unusedVariables false
structure DSt where
  at_:List (Nat × Nat)
  out:List (Nat × Value)
def DSt.look (s:DSt) (t:Nat):Option Nat:=(s.at_.find? fun x=>x.1 == t).map (·.2)
def DSt.put (s:DSt) (t x:Nat):DSt:=⟨(t,x) :: s.at_,s.out⟩
def dOp (P:Program) (N n:Nat) (s:DSt):SOp→Option DSt
  | ⟨some t,.move (.tmp x),none⟩=>if t < N then (s.look x).map (s.put t) else none
  | ⟨some t,.assign (.tmp x),none⟩=>if t < N then (s.look x).map (s.put t) else none
  | ⟨some t,.nilCheck (.tmp x),none⟩=>if t < N then (s.look x).map (s.put t) else none
  | ⟨some t,.fieldAddr S (.tmp x) f,none⟩=>if t < N then (s.look x).bind fun o=>(fieldOff P S f).map fun off=>s.put t (o+off) else none
  | ⟨none,.store T (.tmp x) (.const v),none⟩=>if oneB P T && v.oneCell' then (s.look x).bind fun o=>if o < n then some ⟨s.at_,s.out ++ [(o,v)]⟩ else none else none
  | _=>none
def dOps (P:Program) (N n:Nat):DSt→List SOp→Option DSt
  | s,[]=>some s
  | s,o :: r=>(dOp P N n s o).bind fun s'=>dOps P N n s' r
def dRun (P:Program) (N n:Nat):DSt→SC→Option DSt
  | s,.skip=>some s
  | s,.reg l=>dOps P N n s l
  | s,.seq a b=>(dRun P N n s a).bind fun s'=>dRun P N n s' b
  | _,_=>none
def dSetAll (o:Nat):List (Nat × Value)→Array Value→Array Value
  | [],cs=>cs
  | x :: r,cs=>dSetAll o r (cs.setIfInBounds (o+x.1) x.2)
theorem dSetAll_append (o:Nat):∀ (l r:List (Nat × Value)) (cs:Array Value),dSetAll o (l ++ r) cs=dSetAll o r (dSetAll o l cs)
  | [],_,_=>rfl
  | x :: l,r,cs=>dSetAll_append o l r _
theorem dSetAll_size (o:Nat):∀ (l:List (Nat × Value)) (cs:Array Value),(dSetAll o l cs).size=cs.size
  | [],_=>rfl
  | x :: l,cs=>by simp [dSetAll,dSetAll_size o l]
structure DInv (N:Nat) (w0:World) (b o:Nat) (cs:Array Value) (T:TypeId) (s:DSt) (a:Act) (w:World):Prop where
  size:a.tmps.size=N
  defers:a.defers=[]
  slots:∀ t x,s.look t=some x→getT a t=.pointer (some ⟨b,o+x,none⟩)
  world:w=w0.setRow b (dSetAll o s.out cs)
  row:w.heap[b]?=some (.cells (dSetAll o s.out cs) T (0,0))
theorem dPut {N:Nat} {w0 w:World} {b o x t:Nat} {cs:Array Value} {T:TypeId} {s:DSt} {a:Act} {v:Value} (h:DInv N w0 b o cs T s a w) (ht:t < N) (hv:v=.pointer (some ⟨b,o+x,none⟩)):DInv N w0 b o cs T (s.put t x) (a.put (some t) v) w:=by
  subst hv
  refine ⟨by rw [sPu];exact h.size,by rw [dPu];exact h.defers,fun t' x' hx=>?_,h.world,h.row⟩
  have hsz:=h.size
  simp only [DSt.put,DSt.look,List.find?_cons] at hx
  by_cases e:t=t'
  · subst e
    simp at hx
    subst hx
    rw [gTp (by omega)]
  · rw [gTn (Ne.symm e)]
    have:(t == t')=false:=by simpa using e
    simp only [this] at hx
    exact h.slots t' x' hx
theorem dOps_ok {P:Program} {N n:Nat} {w0:World} {b o:Nat} {cs:Array Value} {T:TypeId} (hn:o+n≤cs.size) {all:List SOp} {K:Act→World→Prop} {s':DSt} (hK:∀ a w,DInv N w0 b o cs T s' a w→K a w) :
    ∀ (l:List SOp) (s:DSt) (a:Act) (w:World),dOps P N n s l=some s'→DInv N w0 b o cs T s a w→opsw P all l K a w
  | [],s,a,w,h,hi=>by
    simp only [dOps,Option.some.injEq] at h
    subst h
    exact hK a w hi
  | op :: r,s,a,w,h,hi=>by
    simp only [dOps] at h
    obtain ⟨s1,h1,h2⟩:=Option.bind_eq_some_iff.1 h
    have ih:=fun a w=>dOps_ok hn (all:=all) hK r s1 a w h2
    unfold dOp at h1
    split at h1 <;> try (simp at h1;done)
    · rename_i t x
      split at h1 <;> try (simp at h1;done)
      rename_i ht
      obtain ⟨y,hy,rfl⟩:=Option.map_eq_some_iff.1 h1
      have hs:=hi.slots _ _ hy
      exact oNo rfl (opw_move (ih _ _ (dPut hi ht (by rw [eTm];exact hs))))
    · rename_i t x
      split at h1 <;> try (simp at h1;done)
      rename_i ht
      obtain ⟨y,hy,rfl⟩:=Option.map_eq_some_iff.1 h1
      have hs:=hi.slots _ _ hy
      exact oNo rfl (opw_assign (ih _ _ (dPut hi ht (by rw [eTm];exact hs))))
    · rename_i t x
      split at h1 <;> try (simp at h1;done)
      rename_i ht
      obtain ⟨y,hy,rfl⟩:=Option.map_eq_some_iff.1 h1
      have hs:=hi.slots _ _ hy
      exact oNo rfl (opw_nilCheck (by rw [eTm];exact hs) (ih _ _ (dPut hi ht rfl)))
    · rename_i t S x f
      split at h1 <;> try (simp at h1;done)
      rename_i ht
      obtain ⟨y,hy,h1⟩:=Option.bind_eq_some_iff.1 h1
      obtain ⟨off,hoff,rfl⟩:=Option.map_eq_some_iff.1 h1
      have hs:=hi.slots _ _ hy
      exact oNo rfl (opw_field (fieldB_of hoff) (by rw [eTm];exact hs) (ih _ _ (dPut hi ht (by rw [Nat.add_assoc]))))
    · rename_i T' x v
      split at h1 <;> try (simp at h1;done)
      rename_i hT
      simp only [Bool.and_eq_true] at hT
      obtain ⟨y,hy,h1⟩:=Option.bind_eq_some_iff.1 h1
      split at h1 <;> try (simp at h1;done)
      rename_i hyn
      simp only [Option.some.injEq] at h1
      subst h1
      have hs:=hi.slots _ _ hy
      have hsz:=dSetAll_size o s.out cs
      have hlt:o+y < (dSetAll o s.out cs).size:=by omega
      refine oNo rfl (opw_store_one (ad:=⟨b,o+y,none⟩) (v:=v) (v0:=(dSetAll o s.out cs)[o+y]) hT.1 (by rw [eTm];exact hs) rfl hT.2 (by rw [cell_of_row _ _ _ _ _ _ hi.row];exact Array.getElem?_eq_getElem hlt) (by simp [World.frozen?,hi.row]) ?_)
      rw [pNo]
      refine ih _ _ ⟨hi.size,hi.defers,hi.slots,?_,?_⟩
      · rw [setCell_eq_setRow _ _ _ _ _ _ _ hi.row,dSetAll_append,hi.world,setRow_setRow]
        rfl
      · rw [setCell_eq_setRow _ _ _ _ _ _ _ hi.row,dSetAll_append]
        exact setRow_heap _ _ _ _ _ _ hi.row
theorem dRun_ok {P:Program} {N n:Nat} {w0:World} {b o:Nat} {cs:Array Value} {T:TypeId} (hn:o+n≤cs.size):∀ (c:SC) (s s':DSt) (a:Act) (w:World) (Q:Exit→Act→World→Prop),dRun P N n s c=some s'→DInv N w0 b o cs T s a w →
    (∀ a w,DInv N w0 b o cs T s' a w→Q .normal a w)→c.wp P Q a w
  | .skip,s,s',a,w,Q,h,hi,hQ=>by
    simp only [dRun,Option.some.injEq] at h
    subst h
    exact SC.wp_skip (hQ a w hi)
  | .reg l,s,s',a,w,Q,h,hi,hQ=>by
    simp only [dRun] at h
    exact SC.wp_reg (dOps_ok hn hQ l s a w h hi)
  | .seq x y,s,s',a,w,Q,h,hi,hQ=>by
    simp only [dRun] at h
    obtain ⟨s1,h1,h2⟩:=Option.bind_eq_some_iff.1 h
    refine SC.wp_seq (dRun_ok hn x s s1 a w _ h1 hi fun a' w' hi'=>?_)
    exact dRun_ok hn y s1 s' a' w' Q h2 hi' hQ
  | .dreg _ _,_,_,_,_,_,h,_,_=>by simp [dRun] at h
  | .cond _ _ _,_,_,_,_,_,h,_,_=>by simp [dRun] at h
  | .block _ _,_,_,_,_,_,h,_,_=>by simp [dRun] at h
  | .loop _,_,_,_,_,_,h,_,_=>by simp [dRun] at h
  | .exit _,_,_,_,_,_,h,_,_=>by simp [dRun] at h
  | .ret,_,_,_,_,_,h,_,_=>by simp [dRun] at h
  | .label _,_,_,_,_,_,h,_,_=>by simp [dRun] at h
  | .goto _,_,_,_,_,_,h,_,_=>by simp [dRun] at h
  | .scope _,_,_,_,_,_,h,_,_=>by simp [dRun] at h
  | .other,_,_,_,_,_,h,_,_=>by simp [dRun] at h
def DefAt (P:Program) (f n:Nat) (out:List (Nat × Value)):Prop :=
  FnOK P f∧∀ (w:World) (b o:Nat) (cs:Array Value) (T:TypeId),w.heap[b]?=some (.cells cs T (0,0))→o+n≤cs.size →
    Calls P f #[.pointer (some ⟨b,o,none⟩)] w fun e w'=>e=.returned (.tuple #[])∧w'=w.setRow b (dSetAll o out cs)
def dOut (P:Program) (N n:Nat) (c:SC):Option (List (Nat × Value)):=(dRun P N n ⟨[(0,0)],[]⟩ c).map (·.out)
theorem defAt_ok {P : Program} {f n N : Nat} {fn : Func} {c : SC} {out : List (Nat × Value)} (hf : P.funcs[f]? = some fn) (hb : fn.body.map strip = some c) (hnm : (fn.name == "runtime.NumGoroutine") = false) (hN : fn.ntmps = N) (h1 : 1 ≤ N) (hr : fn.results = #[])
    (hd:dOut P N n c=some out):DefAt P f n out:=by
  refine ⟨fnOK_of hf hb hnm,fun w b o cs T hc hn=>?_⟩
  obtain ⟨s,hs,rfl⟩:=Option.map_eq_some_iff.1 hd
  refine fCa hf hb hN (by simpa using h1) fun a0 hsz hdf ha=>?_
  have h0:=ha 0 _ rfl
  refine dRun_ok (w0:=w) hn c _ s a0 w _ hs ⟨hsz,hdf,fun t x hx=>?_,?_,hc⟩ fun a w' hi=>?_
  · simp only [DSt.look,List.find?_cons,List.find?_nil] at hx
    by_cases e:0=t
    · subst e
      simp at hx
      subst hx
      simpa using h0
    · have:(0 == t)=false:=by simpa using e
      simp [this] at hx
  · exact (setRow_self _ _ _ _ _ hc).symm
  · refine ⟨hi.defers,.tuple #[],by simp [results,hr],rfl,hi.world⟩
end Go.Proofs.YtcchakpiemhpeaaDoor.K
namespace Go.Proofs.YtcchakpiemhpeaaDoor.K
open Go Go.RowKit Go.Proofs.YtcchakpiemhpeaaDoor.T
set_option linter.unusedVariables false
set_option linter.unusedSimpArgs false
attribute [local simp] eTm eCo pNo gTp gTn qv qcall vop iop
section
variable {X:Fix}
theorem getElem?_map_flatten {α:Type} (l:List α) (f:α→Bytes):(l.map f).flatten=l.flatMap f:=by simp [List.flatMap]
theorem AFragP.keep {x:SC} {pre post:Act→Prop} {lo t:Nat} {o:Bytes} (h:AFragP X x pre post lo t o) (hst:∀ a a',Same X a a' lo t→pre a→pre a'):AFragP X x pre (fun a=>pre a∧post a) lo t o :=
  fun a w xs Q hi hp hlen hQ=>h a w xs Q hi hp hlen fun a' w' h1 h2 h3=>hQ a' w' h1 h2 ⟨hst _ _ h2 hp,h3⟩
theorem seqs_cons {x:SC} {l:List SC} (hl:l ≠ []):seqs (x :: l)=.seq x (seqs l):=by
  cases l with
  | nil=>exact absurd rfl hl
  | cons y r=>rfl
theorem aElem_ne (I:Ids) (c:Ctx) (T E s i v t b:Nat) (ty:Ty):aElem I c T E s i v t b ty ≠ []:=by
  cases ty <;> simp [aElem]
  split <;> simp
def TagsAt (G:List (Nat × Bytes)→Prop) (w:World) (F:Nat→Prop) (flex:Bool) (b o:Nat) (tags:Option (Nat × Nat)) (u:List (Nat × Bytes)):Prop :=
  match tags with | none=>u=[] | some (_,off)=>flex=true→HTags G w F b (o+off) u
theorem aTagsL_ok {S p t b o lo:Nat} {tags:Option (Nat × Nat)} {u:List (Nat × Bytes)} (hX:X.ok) (hlo:lo≤X.T0) (hlv:X.c.ver < lo) (hlf:X.c.flex < lo) (hp:p < lo) (hp1:p ≠ 1) (ht:X.T0≤t) (htN:t+tagsT tags≤X.N) (hb:b < X.B)
    (hok:okTags X.P X.I X.c S tags=true) (hu:TagsAt X.G X.w0 (· < X.B) X.flex b o tags u) :
    AList X (fun a=>getT a p=.pointer (some ⟨b,o,none⟩)) lo t (aTagsL X.I X.c S p tags t) (wTags X.flex u):=by
  cases tags with
  | none =>
    have hf:=hX.never hok
    have e:wTags X.flex u=[]:=by simp [wTags,hf]
    rw [e]
    exact .nil
  | some x =>
    obtain ⟨f,off⟩:=x
    simp only [tagsT,Option.isSome_some,if_true,aTagsT] at htN
    have h:=aTags_ok (X:=X) (S:=S) (p:=p) (f:=f) (off:=off) (t:=t) (b:=b) (o:=o) (lo:=lo) (u:=u) hX hlo hlv hlf hp hp1 ht (by omega) hb hok hu
    have:=AList.cons h (AList.nil (X:=X) (pre:=fun a=>getT a p=.pointer (some ⟨b,o,none⟩)) (lo:=lo) (t:=t))
    simpa [aTagsL] using this
mutual
theorem aVal_ok (hX:X.ok):∀ (ty:Ty) (S p:Nat) (h:Hd) (v t bk b o:Nat) (tr:Tree),okVal X.P X.I X.c X.tU8 h ty=true→fieldB X.P S h.idx h.off=true→(h.null < 0∨h.null≤X.ver) →
    HTy X.G X.w0 (· < X.B) X.ver X.flex ty (decide (0≤h.null)) b (o+h.off) tr→b < X.B→p < v→p ≠ 1→X.c.ver < v→X.c.flex < v→2≤v→v+nV ty+(if h.enum then 1 else 0)≤X.T0→X.T0≤t→t+aVT X.c h ty≤X.N →
    AFrag X (aVal X.I X.c S p h v t bk ty) (fun a=>getT a p=.pointer (some ⟨b,o,none⟩)) v t (wField X.ver X.flex h ty tr)
  | .prim k,S,p,h,v,t,bk,b,o,tr,hok,hS,hnull,hH,hb,hp,hp1,hlv,hlf,hv2,hvT,ht,htN=>by
    have hnul:h.isNull X.ver tr=(decide (0≤h.null) && tr.null):=by
      rcases hnull with e | e
      · simp [Hd.isNull,show ¬ (0≤h.null) by omega]
      · simp [Hd.isNull,e,Bool.and_comm]
    have hwf:wField X.ver X.flex h (.prim k) tr=wPrim X.flex (decide (0≤h.null) && tr.null) tr k:=by simp only [wField,wTy,hnul]
    rw [hwf]
    simp only [nV] at hvT
    simp only [aVT] at htN
    simp only [HTy,HPrim] at hH
    unfold okVal at hok
    by_cases hk:k=.uuid
    · subst hk
      rw [if_pos rfl] at hok hH
      simp only [Bool.and_eq_true,decide_eq_true_eq,Bool.not_eq_true',bne_iff_ne,ne_eq] at hok
      obtain ⟨⟨⟨hn,he⟩,hT⟩,hU⟩:=hok
      simp only [aAppT,PK.parted,Bool.false_eq_true,if_false] at htN
      have:=aUuid_ok (X:=X) (S:=S) (p:=p) (v:=v) (t:=t) (b:=b) (o:=o) (lo:=v) (h:=h) (tr:=tr) hX (Nat.le_refl _) hlv hlf (by omega) (by omega) ht (by omega) hS hT hU hb hH
      have e2:wPrim X.flex (decide (0≤h.null) && tr.null) tr .uuid=uuidOf tr:=by simp [wPrim,uuidOf]
      rw [e2]
      simpa only [aVal,if_true] using this
    · rw [if_neg hk] at hok hH
      obtain ⟨u,hc,hpv⟩:=hH
      simp only [Bool.and_eq_true,Bool.or_eq_true,Bool.not_eq_true',decide_eq_true_eq] at hok
      obtain ⟨⟨hT,hen⟩,happ⟩:=hok
      have hload:=aLoad_ok (X:=X) (S:=S) (p:=p) (f:=h.idx) (T:=h.typ) (v:=v) (t:=t) (off:=h.off) (b:=b) (o:=o) (u:=u) (lo:=v) hX (Nat.le_refl _) hlv hlf (by omega) (by omega) ht (by omega) hS hT hb hc
      unfold aVal
      rw [if_neg hk]
      by_cases he:h.enum=true
      · rw [if_pos he] at hvT htN ⊢
        rcases hen with hen | hk8
        · rw [hen] at he;cases he
        · subst hk8
          obtain rfl:=hpv
          have hap:=aApp_ok (X:=X) (nul:=decide (0≤h.null)) (k:=.i8) (x:=v+1) (t:=t+5) (lo:=v+2) (tr:=tr) (v:=.int .i8 tr.n) hX happ rfl (by omega) (by omega) (by omega) (by omega) (by omega) (by omega) (by simp only [aAppT,PK.parted,Bool.false_eq_true,if_false] at htN ⊢;omega)
          have hmid:AFragP X (.reg [mv (t+4) v,asg (v+1) (t+4)]) (fun a=>getT a v=.int .i8 tr.n) (fun a=>getT a (v+1)=.int .i8 tr.n) (v+1) (t+4) []:=by
            refine AFragP.quiet hX (by omega) (by omega) ?_
            intro a w xs K hi hpre hK
            have hsz:=hi.size
            refine ops_mv (ops_asg (oNi ?_))
            refine hK _ (by simp [sPu]) (by simp [dPu]) ?_ ?_ ?_
            · intro s hs1 hs2
              simp (disch:=omega) [gTn]
            · simp (disch:=omega) [gTn]
            · simp (disch:=(try simp only [sPu]);omega) [gTp,hpre]
          have h2:=hmid.seq hap (fun a a' _ _ hq=>hq) (by omega) (by omega)
          have h3:=hload.seq h2 (fun a a' _ _ hq=>hq) (by omega) (by omega)
          exact h3
      · rw [if_neg he] at hvT htN ⊢
        have hap:=aApp_ok (X:=X) (nul:=decide (0≤h.null)) (k:=k) (x:=v) (t:=t+4) (lo:=v+1) (tr:=tr) (v:=u) hX happ hpv (by omega) (by omega) (by omega) (by omega) (by omega) (by omega) (by omega)
        exact hload.seq hap (fun a a' _ _ hq=>hq) (by omega) (by omega)
  | .list T E size of,S,p,h,v,t,bk,b,o,tr,hok,hS,hnull,hH,hb,hp,hp1,hlv,hlf,hv2,hvT,ht,htN=>by
    have hnul:h.isNull X.ver tr=(decide (0≤h.null) && tr.null):=by
      rcases hnull with e | e
      · simp [Hd.isNull,show ¬ (0≤h.null) by omega]
      · simp [Hd.isNull,e,Bool.and_comm]
    have hwf:wField X.ver X.flex h (.list T E size of) tr=wTy X.ver X.flex (.list T E size of) (decide (0≤h.null) && tr.null) tr:=by simp only [wField,hnul]
    rw [hwf]
    simp only [nV] at hvT
    simp only [aVT] at htN
    unfold okVal at hok
    simp only [Bool.and_eq_true,Bool.not_eq_true',beq_iff_eq] at hok
    obtain ⟨⟨⟨⟨⟨he,hTT⟩,hT1⟩,hsl⟩,hlen⟩,hel⟩:=hok
    rw [if_neg (by simp [he])] at hvT
    simp only [HTy] at hH
    obtain ⟨base,cap,hc,hH⟩:=hH
    have hload:=aLoad_ok (X:=X) (S:=S) (p:=p) (f:=h.idx) (T:=h.typ) (v:=v) (t:=t) (off:=h.off) (b:=b) (o:=o) (lo:=v) hX (Nat.le_refl _) hlv hlf (by omega) (by omega) ht (by omega) hS (by rw [hTT];exact hT1) hb hc
    unfold aVal
    generalize hnl:(decide (0≤h.null) && tr.null)=nl at hc hH hload ⊢
    have hisn:(decide (0≤h.null) && base.isNone)=nl∧(if nl=true then 0 else tr.l.length)≤most:=by
      cases nl with
      | true =>
        simp only [if_true] at hH ⊢
        simp only [Bool.and_eq_true] at hnl
        exact ⟨by simp [hH];simpa using hnl.1,Nat.zero_le _⟩
      | false =>
        simp only [Bool.false_eq_true,if_false] at hH ⊢
        refine ⟨?_,hH.1⟩
        by_cases hz:decide (0≤h.null)=true
        · have:=hH.2.1 hz
          cases base <;> simp_all
        · simp only [Bool.not_eq_true] at hz
          rw [hz];rfl
    have hlenOk:=aLen_ok (X:=X) (nul:=decide (0≤h.null)) (T:=T) (E:=E) (n:=size) (v:=v) (t:=t+4) (lo:=v+1) (cnt:=if nl=true then 0 else tr.l.length) (cap:=cap) (base:=base) hX (by omega) (by omega) (by omega) (by omega) (by omega) (by omega) (by omega) hsl hlen hisn.2
    rw [hisn.1] at hlenOk
    have hlen2:AFragP X (aLen X.I X.c (decide (0≤h.null)) T v (t+4)) (fun a=>getT a v=.slice base (if nl=true then 0 else tr.l.length) cap) (fun a=>getT a v=.slice base (if nl=true then 0 else tr.l.length) cap) v (t+4) (counted X.flex nl (if nl=true then 0 else tr.l.length) 4) :=
      (hlenOk.keep (stable_slot (by omega) (by omega))).mono (fun _ h=>h) (fun _ h=>h.1) (by omega) (Nat.le_refl _)
    have hloop:AFrag X (aLoop T v (t+4+aLenT X.c (decide (0≤h.null))) bk (aET X.c of) (aElem X.I X.c T E v (v+1) (v+2) (t+4+aLenT X.c (decide (0≤h.null))+5) (bk+2) of) X.I.tInt)
        (fun a=>getT a v=.slice base (if nl=true then 0 else tr.l.length) cap) v (t+4+aLenT X.c (decide (0≤h.null))) ((if nl=true then [] else tr.l).flatMap (fun x=>wTy X.ver X.flex of false x)):=by
      have hnV:1≤nV of:=by cases of <;> simp [nV] <;> omega
      rw [← getElem?_map_flatten]
      have hcnt:(if nl=true then 0 else tr.l.length)=((if nl=true then [] else tr.l).map (fun x=>wTy X.ver X.flex of false x)).length:=by split <;> simp
      rw [hcnt]
      refine aLoop_ok (X:=X) (lo:=v) hX (Nat.le_refl _) (by omega) (by omega) hlv hlf (by omega) (by omega) hsl (by rw [← hcnt];exact hisn.2) ?_
      intro i out hout
      rw [← hcnt]
      simp only [List.getElem?_map,Option.map_eq_some_iff] at hout
      obtain ⟨x,hx,rfl⟩:=hout
      cases nl with
      | true=>simp at hx
      | false =>
        simp only [Bool.false_eq_true,if_false] at hx hH ⊢
        obtain ⟨-,-,hH⟩:=hH
        have hlt:i < tr.l.length:=(List.getElem?_eq_some_iff.1 hx).1
        rcases hH with ⟨rfl,hnil⟩ | ⟨b',o',rfl,hF,hels⟩
        · rw [hnil] at hlt
          exact absurd hlt (Nat.not_lt_zero _)
        · have hE:=aElem_ok hX of T E size v (v+1) (v+2) (t+4+aLenT X.c (decide (0≤h.null))+5) (bk+2) b' o' cap tr.l.length i x hel hsl (hels i x hx) hF hlt (by omega) (by omega) (by omega) (by omega) (by omega) (by omega) (by omega) (by omega) (by omega) (by omega)
          rw [seqs_cons (aElem_ne _ _ _ _ _ _ _ _ _ _)]
          have hreg:AFragP X (.reg [mv (t+4+aLenT X.c (decide (0≤h.null))+4) (t+4+aLenT X.c (decide (0≤h.null))+2),asg (v+1) (t+4+aLenT X.c (decide (0≤h.null))+4)])
              (fun a=>getT a v=.slice (some ⟨b',o',none⟩) tr.l.length cap∧getT a (t+4+aLenT X.c (decide (0≤h.null))+2)=.int .i64 (i:Int))
              (fun a=>getT a v=.slice (some ⟨b',o',none⟩) tr.l.length cap∧getT a (v+1)=.int .i64 (i:Int)) (v+1) (t+4+aLenT X.c (decide (0≤h.null))+4) []:=by
            refine AFragP.quiet hX (by omega) (by omega) ?_
            intro a w xs K hi hpre hK
            have hsz:=hi.size
            refine ops_mv (ops_asg (oNi ?_))
            refine hK _ (by simp [sPu]) (by simp [dPu]) ?_ ?_ ⟨?_,?_⟩
            · intro s hs1 hs2
              simp (disch:=omega) [gTn]
            · simp (disch:=omega) [gTn]
            · simp (disch:=omega) [gTn]
              exact hpre.1
            · simp (disch:=(try simp only [sPu]);omega) [gTp]
              exact hpre.2
          exact hreg.seq hE (fun a a' _ _ hq=>hq) (by omega) (by omega)
    have hout:wTy X.ver X.flex (.list T E size of) nl tr=counted X.flex nl (if nl=true then 0 else tr.l.length) 4 ++ (if nl=true then [] else tr.l).flatMap (fun x=>wTy X.ver X.flex of false x):=by
      simp only [wTy]
      cases nl with
      | true=>simp
      | false =>
        simp only [Bool.false_eq_true,if_false] at hH ⊢
        rw [List.take_of_length_le hH.1]
    rw [hout]
    have h2:=hlen2.seq hloop (fun a a' _ _ hq=>hq) (Nat.le_refl _) (by omega)
    exact hload.seq h2 (fun a a' _ _ hq=>hq) (Nat.le_refl _) (by omega)
  | .struct S' sz df tags fs,S,p,h,v,t,bk,b,o,tr,hok,hS,hnull,hH,hb,hp,hp1,hlv,hlf,hv2,hvT,ht,htN=>by
    have hnul:h.isNull X.ver tr=(decide (0≤h.null) && tr.null):=by
      rcases hnull with e | e
      · simp [Hd.isNull,show ¬ (0≤h.null) by omega]
      · simp [Hd.isNull,e,Bool.and_comm]
    simp only [nV] at hvT
    simp only [aVT] at htN
    unfold okVal at hok
    simp only [Bool.and_eq_true,Bool.not_eq_true',Bool.or_eq_true,decide_eq_true_eq] at hok
    obtain ⟨⟨⟨he,hn⟩,htag⟩,hfs⟩:=hok
    rw [if_neg (by simp [he])] at hvT
    unfold aVal
    simp only [HTy] at hH
    by_cases hz:0≤h.null
    · rw [if_pos hz] at htN ⊢
      rw [if_pos (by simpa using hz)] at hH
      rcases hn with hn | ⟨⟨hT1,hpt⟩,hu8⟩
      · omega
      have hwf:wField X.ver X.flex h (.struct S' sz df tags fs) tr=if tr.null then [255] else [1] ++ (wFs X.ver X.flex fs tr.l ++ wTags X.flex tr.u):=by
        have hd:h.isNull X.ver tr=tr.null:=by rw [hnul];simp [hz]
        simp only [wField,hz,if_true,hd,wTy,List.cons_append,List.nil_append]
      rw [hwf]
      by_cases hnl:tr.null=true
      · rw [if_pos hnl] at hH ⊢
        have hload:=aLoad_ok (X:=X) (S:=S) (p:=p) (f:=h.idx) (T:=h.typ) (v:=v) (t:=t) (off:=h.off) (b:=b) (o:=o) (lo:=v) hX (Nat.le_refl _) hlv hlf (by omega) (by omega) ht (by omega) hS hT1 hb hH
        have hby:=aByte_ok (X:=X) (n:=255) (t:=t+6) (lo:=v) (u:=255) hX rfl (by omega) hlv hlf (by omega) (by omega) hu8
        have hrest:AFrag X (.seq (.reg [mv (t+4) v,bin .eql (t+5) h.typ (t+4) (.const (.pointer none))])
            (.cond (.tmp (t+5)) (aByte X.I 255 (t+6)) (seqs (aByte X.I 1 (t+9) :: (aFs X.I X.c S' v (v+1) (t+12) bk fs ++ aTagsL X.I X.c S' v tags (t+12+aFT X.c fs))))))
            (fun a=>getT a v=.pointer none) v (t+4) [255]:=by
          intro a w xs Q hi hp hlen hQ
          have hsz:=hi.size
          have h1:=hX.oneT
          refine SC.wp_seq (SC.wp_reg (ops_mv (oNo rfl (opw_eqlnil_ptr hpt (q:=none) (by rw [eTm,gTp (by omega)];exact hp) (oNi ?_)))))
          refine SC.wp_cond (t:=true) (by simp (disch:=(try simp only [sPu]);omega) [eTm,gTp]) ?_
          rw [if_pos rfl]
          have hS2:Same X a ((a.put (some (t+4)) (getT a v)).put (some (t+5)) (.bool (Option.isNone (none:Option Addr)))) v (t+4):=by
            intro s hs1 hs2
            simp (disch:=omega) [gTn]
          refine hby _ w xs _ ?_ trivial hlen fun a' w' h1 h2 h3=>hQ a' w' h1 (hS2.trans h2 (Nat.le_refl _) (by omega)) h3
          refine hi.step hX (by simp [sPu]) (by simp [dPu]) hS2 hlv hlf ?_ (Below.refl _ _) hi.heap
          simp (disch:=omega) [gTn]
          exact hi.own
        exact hload.seq hrest (fun a a' _ _ hq=>hq) (Nat.le_refl _) (by omega)
      · rw [if_neg hnl] at hH ⊢
        obtain ⟨b',o',hc,hF,hHf,hHt⟩:=hH
        have hload:=aLoad_ok (X:=X) (S:=S) (p:=p) (f:=h.idx) (T:=h.typ) (v:=v) (t:=t) (off:=h.off) (b:=b) (o:=o) (lo:=v) hX (Nat.le_refl _) hlv hlf (by omega) (by omega) ht (by omega) hS hT1 hb hc
        have hby:=(aByte_ok (X:=X) (n:=1) (t:=t+9) (lo:=v+1) (u:=1) hX rfl (by omega) (by omega) (by omega) (by omega) (by omega) hu8).mono (pre':=fun a=>getT a v=.pointer (some ⟨b',o',none⟩)) (fun _ _=>trivial) (fun _ h=>h) (Nat.le_refl _) (Nat.le_refl _)
        have hA:=aFs_ok hX fs S' v (v+1) (t+12) bk b' o' tr.l hfs hHf hF (by omega) (by omega) (by omega) (by omega) (by omega) (by omega) (by omega) (by omega)
        have hTg:=aTagsL_ok (X:=X) (S:=S') (p:=v) (t:=t+12+aFT X.c fs) (b:=b') (o:=o') (lo:=v+1) (u:=tr.u) hX (by omega) (by omega) (by omega) (by omega) (by omega) (by omega) (by omega) hF htag hHt
        have hL:=((AList.cons hby ((hA.append (hTg.mono (Nat.le_refl _) (by omega))).mono (Nat.le_refl _) (by omega))).frag (stable_slot (by omega) (by omega)))
        have hrest:AFrag X (.seq (.reg [mv (t+4) v,bin .eql (t+5) h.typ (t+4) (.const (.pointer none))])
            (.cond (.tmp (t+5)) (aByte X.I 255 (t+6)) (seqs (aByte X.I 1 (t+9) :: (aFs X.I X.c S' v (v+1) (t+12) bk fs ++ aTagsL X.I X.c S' v tags (t+12+aFT X.c fs))))))
            (fun a=>getT a v=.pointer (some ⟨b',o',none⟩)) v (t+4) ([1] ++ (wFs X.ver X.flex fs tr.l ++ wTags X.flex tr.u)):=by
          intro a w xs Q hi hp hlen hQ
          have hsz:=hi.size
          have h1:=hX.oneT
          refine SC.wp_seq (SC.wp_reg (ops_mv (oNo rfl (opw_eqlnil_ptr hpt (q:=some ⟨b',o',none⟩) (by rw [eTm,gTp (by omega)];exact hp) (oNi ?_)))))
          refine SC.wp_cond (t:=false) (by simp (disch:=(try simp only [sPu]);omega) [eTm,gTp]) ?_
          rw [if_neg (by simp)]
          have hS2:Same X a ((a.put (some (t+4)) (getT a v)).put (some (t+5)) (.bool (Option.isNone (some (⟨b',o',none⟩:Addr))))) (v+1) (t+4):=by
            intro s hs1 hs2
            simp (disch:=omega) [gTn]
          refine hL _ w xs _ ?_ ((hS2 v (by omega) (by omega)).trans hp) hlen fun a' w' h1 h2 h3=>hQ a' w' h1 ((hS2.trans h2 (Nat.le_refl _) (by omega)).mono (by omega) (Nat.le_refl _)) h3
          refine hi.step hX (by simp [sPu]) (by simp [dPu]) hS2 (by omega) (by omega) ?_ (Below.refl _ _) hi.heap
          simp (disch:=omega) [gTn]
          exact hi.own
        exact hload.seq hrest (fun a a' _ _ hq=>hq) (Nat.le_refl _) (by omega)
    · rw [if_neg hz] at htN ⊢
      rw [if_neg (by simpa using hz)] at hH
      obtain ⟨hHf,hHt⟩:=hH
      have hwf:wField X.ver X.flex h (.struct S' sz df tags fs) tr=[] ++ (wFs X.ver X.flex fs tr.l ++ wTags X.flex tr.u):=by
        simp only [wField,hz,if_false,wTy,List.nil_append]
      rw [hwf]
      have hA:=aFs_ok hX fs S' v (v+1) (t+3) bk b (o+h.off) tr.l hfs hHf hb (by omega) (by omega) (by omega) (by omega) (by omega) (by omega) (by omega) (by omega)
      have hTg:=aTagsL_ok (X:=X) (S:=S') (p:=v) (t:=t+3+aFT X.c fs) (b:=b) (o:=o+h.off) (lo:=v+1) (u:=tr.u) hX (by omega) (by omega) (by omega) (by omega) (by omega) (by omega) (by omega) hb htag hHt
      have hreg:AFragP X (.reg [mv t p,nilc (t+1) t,fa (t+2) S (t+1) h.idx,asg v (t+2)]) (fun a=>getT a p=.pointer (some ⟨b,o,none⟩)) (fun a=>getT a v=.pointer (some ⟨b,o+h.off,none⟩)) v t []:=by
        refine AFragP.quiet hX hlv hlf ?_
        intro a w xs K hi hpre hK
        have hsz:=hi.size
        refine ops_mv (ops_nilc (ad:=⟨b,o,none⟩) (by rw [gTp (by omega)];exact hpre) (ops_fa hS (b:=b) (o:=o) (by rw [gTp (by simp only [sPu];omega)]) (ops_asg (oNi ?_))))
        refine hK _ (by simp [sPu]) (by simp [dPu]) ?_ ?_ ?_
        · intro s hs1 hs2
          simp (disch:=omega) [gTn]
        · simp (disch:=omega) [gTn]
        · simp (disch:=(try simp only [sPu]);omega) [gTp]
      exact AList.behind hreg (hA.append (hTg.mono (Nat.le_refl _) (by omega))) (stable_slot (by omega) (by omega)) (fun a a' _ _ hq=>hq) (by omega) (by omega)
theorem aElem_ok (hX:X.ok):∀ (ty:Ty) (T E size s i v t bk b o cap cnt idx:Nat) (tr:Tree),okElem X.P X.I X.c X.tU8 E size ty=true→sliceB X.P T E size=true →
    HTy X.G X.w0 (· < X.B) X.ver X.flex ty false b (o+idx * size) tr→b < X.B→idx < cnt→s < v→i < v→s ≠ 1→i ≠ 1→X.c.ver < v→X.c.flex < v→2≤v→v+nV ty≤X.T0→X.T0≤t→t+aET X.c ty≤X.N →
    AFrag X (seqs (aElem X.I X.c T E s i v t bk ty)) (fun a=>getT a s=.slice (some ⟨b,o,none⟩) cnt cap∧getT a i=.int .i64 (idx:Int)) v t (wTy X.ver X.flex ty false tr)
  | .prim k,T,E,size,s,i,v,t,bk,b,o,cap,cnt,idx,tr,hok,hsl,hH,hb,hidx,hsv,hiv,hs1,hi1,hlv,hlf,hv2,hvT,ht,htN=>by
    unfold okElem at hok
    by_cases hk:k=.uuid
    · subst hk
      rw [if_pos rfl] at hok
      simp only [Bool.and_eq_true,bne_iff_ne,ne_eq,beq_iff_eq] at hok
      obtain ⟨⟨hsz1,hT1⟩,hU⟩:=hok
      subst hsz1
      simp only [HTy,HPrim,if_true] at hH
      simp only [nV] at hvT
      simp only [aET,aAppT,PK.parted,Bool.false_eq_true,if_false] at htN
      exact aUuidE_ok (X:=X) hX (Nat.le_refl _) hlv hlf (by omega) (by omega) ht (by omega) hsl hidx hsv hiv hT1 hU hb hH
    rw [if_neg hk] at hok
    simp only [Bool.and_eq_true,bne_iff_ne,ne_eq,beq_iff_eq] at hok
    obtain ⟨⟨hsz1,hT1⟩,happ⟩:=hok
    subst hsz1
    simp only [HTy,HPrim,if_neg hk] at hH
    obtain ⟨u,hc,hpv⟩:=hH
    simp only [nV] at hvT
    simp only [aET] at htN
    simp only [aElem,if_neg hk,seqs,wTy]
    have hreg:AFragP X (.reg [mv t s,mv (t+1) i,⟨some (t+2),.indexAddr T (.tmp t) (.tmp (t+1)),none⟩,ld (t+3) E (t+2),asg v (t+3)]) (fun a=>getT a s=.slice (some ⟨b,o,none⟩) cnt cap∧getT a i=.int .i64 (idx:Int)) (fun a=>getT a v=u) v t []:=by
      refine AFragP.quiet hX hlv hlf ?_
      intro a w xs K hi hpre hK
      have hsz:=hi.size
      refine ops_mv (ops_mv (oNo rfl (opw_index hsl (b:=b) (o:=o) (len:=cnt) (cap:=cap) (j:=idx) (k:=.i64) ?_ ?_ hidx (ops_ld hT1 (ad:=⟨b,o+idx * 1,none⟩) (v:=u) ?_ ?_ (ops_asg (oNi ?_))))))
      · simp (disch:=(try simp only [sPu]);omega) [eTm,gTp,gTn]
        exact hpre.1
      · simp (disch:=(try simp only [sPu]);omega) [eTm,gTp,gTn]
        exact hpre.2
      · rw [gTp (by simp only [sPu];omega)]
      · rw [hi.below.cell hb]
        exact hc
      refine hK _ (by simp [sPu]) (by simp [dPu]) ?_ ?_ ?_
      · intro q hq1 hq2
        simp (disch:=omega) [gTn]
      · simp (disch:=omega) [gTn]
      · simp (disch:=(try simp only [sPu]);omega) [gTp]
    have hap:=aApp_ok (X:=X) (nul:=false) (k:=k) (x:=v) (t:=t+4) (lo:=v+1) (tr:=tr) (v:=u) hX happ hpv (by omega) (by omega) (by omega) (by omega) (by omega) (by omega) (by omega)
    exact hreg.seq hap (fun a a' _ _ hq=>hq) (by omega) (by omega)
  | .list _ _ _ _,T,E,size,s,i,v,t,bk,b,o,cap,cnt,idx,tr,hok,hsl,hH,hb,hidx,hsv,hiv,hs1,hi1,hlv,hlf,hv2,hvT,ht,htN=>by
    simp [okElem] at hok
  | .struct S sz df tags fs,T,E,size,s,i,v,t,bk,b,o,cap,cnt,idx,tr,hok,hsl,hH,hb,hidx,hsv,hiv,hs1,hi1,hlv,hlf,hv2,hvT,ht,htN=>by
    unfold okElem at hok
    simp only [Bool.and_eq_true,beq_iff_eq] at hok
    obtain ⟨⟨⟨hSE,hsz1⟩,htag⟩,hfs⟩:=hok
    simp only [HTy,Bool.false_eq_true,if_false] at hH
    obtain ⟨hHf,hHt⟩:=hH
    simp only [nV] at hvT
    simp only [aET] at htN
    simp only [aElem,wTy]
    have hreg:AFragP X (.reg [mv t s,mv (t+1) i,⟨some (t+2),.indexAddr T (.tmp t) (.tmp (t+1)),none⟩,asg v (t+2)]) (fun a=>getT a s=.slice (some ⟨b,o,none⟩) cnt cap∧getT a i=.int .i64 (idx:Int)) (fun a=>getT a v=.pointer (some ⟨b,o+idx * size,none⟩)) v t []:=by
      refine AFragP.quiet hX hlv hlf ?_
      intro a w xs K hi hpre hK
      have hsz:=hi.size
      refine ops_mv (ops_mv (oNo rfl (opw_index hsl (b:=b) (o:=o) (len:=cnt) (cap:=cap) (j:=idx) (k:=.i64) ?_ ?_ hidx (ops_asg (oNi ?_)))))
      · simp (disch:=(try simp only [sPu]);omega) [eTm,gTp,gTn]
        exact hpre.1
      · simp (disch:=(try simp only [sPu]);omega) [eTm,gTp,gTn]
        exact hpre.2
      refine hK _ (by simp [sPu]) (by simp [dPu]) ?_ ?_ ?_
      · intro q hq1 hq2
        simp (disch:=omega) [gTn]
      · simp (disch:=omega) [gTn]
      · simp (disch:=(try simp only [sPu]);omega) [gTp]
    have hA:=aFs_ok hX fs S v (v+1) (t+3) bk b (o+idx * size) tr.l hfs hHf hb (by omega) (by omega) (by omega) (by omega) (by omega) (by omega) (by omega) (by omega)
    have hTg:=aTagsL_ok (X:=X) (S:=S) (p:=v) (t:=t+3+aFT X.c fs) (b:=b) (o:=o+idx * size) (lo:=v+1) (u:=tr.u) hX (by omega) (by omega) (by omega) (by omega) (by omega) (by omega) (by omega) hb htag hHt
    have:=AList.behind hreg (hA.append (hTg.mono (Nat.le_refl _) (by omega))) (stable_slot (by omega) (by omega)) (fun a a' _ _ hq=>hq) (by omega) (by omega)
    simpa using this
theorem aFs_ok (hX:X.ok):∀ (fs:Fs) (S p v t bk b o:Nat) (ts:List Tree),okFs X.P X.I X.c X.tU8 S fs=true→HFs X.G X.w0 (· < X.B) X.ver X.flex fs b o ts→b < X.B→p < v→p ≠ 1→X.c.ver < v→X.c.flex < v→2≤v →
    v+nVs fs≤X.T0→X.T0≤t→t+aFT X.c fs≤X.N→AList X (fun a=>getT a p=.pointer (some ⟨b,o,none⟩)) v t (aFs X.I X.c S p v t bk fs) (wFs X.ver X.flex fs ts)
  | .nil,S,p,v,t,bk,b,o,ts,hok,hH,hb,hp,hp1,hlv,hlf,hv2,hvT,ht,htN=>by
    simp only [aFs,wFs]
    exact .nil
  | .cons h ty r,S,p,v,t,bk,b,o,ts,hok,hH,hb,hp,hp1,hlv,hlf,hv2,hvT,ht,htN=>by
    unfold okFs at hok
    simp only [Bool.and_eq_true,Bool.or_eq_true,decide_eq_true_eq] at hok
    obtain ⟨⟨⟨hS,hnull⟩,hval⟩,hrest⟩:=hok
    simp only [HFs] at hH
    simp only [nVs] at hvT
    simp only [aFT] at htN
    rw [wFs_cons]
    unfold aFs
    refine .cons ?_ ?_
    · refine vCond_ok hX (by omega) hlv hlf ht (by omega) (stable_slot hp hp1) (fun hh=>?_)
      have hfrom:h.from_≤X.ver:=by
        simp only [Hd.has,Bool.and_eq_true,decide_eq_true_eq] at hh
        exact hh.1
      exact (aVal_ok hX ty S p h v (t+vTmps h) bk b o (ts.headD Tree.zero) hval hS (hnull.imp id fun e=>Int.le_trans e hfrom) (hH.1 hh) hb hp hp1 hlv hlf hv2 (by omega) (by omega) (by omega)).mono (fun _ h=>h) (fun _ h=>h) (Nat.le_refl _) (Nat.le_refl _)
    · exact (aFs_ok hX r S p (v+nV ty+(if h.enum then 1 else 0)) (t+vTmps h+aVT X.c h ty) (bk+nB ty) b o ts.tail hrest hH.2 hb (by omega) hp1 (by omega) (by omega) (by omega) (by omega) (by omega) (by omega)).mono (by omega) (by omega)
end
end
end Go.Proofs.YtcchakpiemhpeaaDoor.K
namespace Go.Proofs.YtcchakpiemhpeaaDoor.K
open Go Go.RowKit Go.Proofs.YtcchakpiemhpeaaDoor.T
set_option linter.unusedVariables false
set_option linter.unusedSimpArgs false
attribute [local simp] eTm eCo pNo gTp gTn qv qcall vop iop
section
variable {X:Fix}
theorem AList.wp_append {pre:Act→Prop} {lo t:Nat} {l rest:List SC} {o:Bytes} {Q:Exit→Act→World→Prop} (hne:rest ≠ []) (h:AList X pre lo t l o) (hst:∀ a a',Same X a a' lo t→pre a→pre a') :
    ∀ (a:Act) (w:World) (xs:Bytes),AInv X a w xs→pre a→xs.length+o.length≤lim→(∀ a' w',AInv X a' w' (xs ++ o)→Same X a a' lo t→(seqs rest).wp X.P Q a' w')→(seqs (l ++ rest)).wp X.P Q a w:=by
  induction h with
  | nil =>
    intro a w xs hi hp hlen hQ
    exact hQ a w (by simpa using hi) (Same.refl _ _ _ _)
  | cons h1 _ ih =>
    intro a w xs hi hp hlen hQ
    rw [List.cons_append,seqs_cons (by simp [hne])]
    rw [List.length_append] at hlen
    refine SC.wp_seq (h1 a w xs _ hi hp (by omega) ?_)
    intro a' w' hi' hs' _
    refine ih a' w' _ hi' (hst _ _ hs' hp) (by rw [List.length_append];omega) ?_
    intro a2 w2 hi2 hs2
    exact hQ a2 w2 (by rw [← List.append_assoc];exact hi2) (hs'.trans hs2 (Nat.le_refl _) (Nat.le_refl _))
theorem top_mid {S b o:Nat} {tags:Option (Nat × Nat)} {fs:Fs} {v t:Nat} {ts:List Tree} {u:List (Nat × Bytes)} {Q:Exit→Act→World→Prop} {a:Act} {w:World} (hX:X.ok) (hvT:v+nVs fs≤X.T0) (ht:X.T0≤t) (htN:t+aFT X.c fs+tagsT tags+1≤X.N)
    (hlv:X.c.ver < v) (hlf:X.c.flex < v) (hv:5 < v) (hb:b < X.B) (htags:okTags X.P X.I X.c S tags=true) (hfs:okFs X.P X.I X.c X.tU8 S fs=true)
    (hH:HFs X.G X.w0 (· < X.B) X.ver X.flex fs b o ts) (hT:TagsAt X.G X.w0 (· < X.B) X.flex b o tags u) (hi:AInv X a w []) (hp:getT a 0=.pointer (some ⟨b,o,none⟩))
    (hlim:(wFs X.ver X.flex fs ts ++ wTags X.flex u).length≤lim)
    (hQ:∀ a' w' dv,a'.defers=[]→getT a' 4=dv→Own X.tU8 w' X.B dv (wFs X.ver X.flex fs ts ++ wTags X.flex u)→Below X.B X.w0 w'→Q .ret a' w') :
    (seqs ((aFs X.I X.c S 0 v t 0 fs ++ aTagsL X.I X.c S 0 tags (t+aFT X.c fs)) ++ [.reg [mv (t+aFT X.c fs+tagsT tags) 1,asg 4 (t+aFT X.c fs+tagsT tags)],.ret])).wp X.P Q a w:=by
  have h1:=hX.oneT
  have hA:=aFs_ok hX fs S 0 v t 0 b o ts hfs hH hb (by omega) (by omega) hlv hlf (by omega) hvT ht (by omega)
  have hTg:=aTagsL_ok (X:=X) (S:=S) (p:=0) (t:=t+aFT X.c fs) (b:=b) (o:=o) (lo:=v) (u:=u) hX (by omega) hlv hlf (by omega) (by omega) (by omega) (by omega) hb htags hT
  refine (hA.append (hTg.mono (Nat.le_refl _) (by omega))).wp_append (by simp) (stable_slot (by omega) (by omega)) a w [] hi hp (by simpa using hlim) ?_
  intro a' w' hi' _
  have hsz:=hi'.size
  rw [List.nil_append] at hi'
  refine SC.wp_seq (SC.wp_reg (ops_mv (ops_asg (oNi ?_))))
  refine SC.wp_ret (hQ _ _ (getT a' 1) (by simp [dPu,hi'.defers]) ?_ hi'.own hi'.below)
  rw [gTp (by simp only [sPu];omega),gTp (by omega)]
end
def flexAt (flex:Option Int) (ver:Int):Bool:=match flex with | none=>false | some n=>decide (n≤ver)
def okTop (P:Program) (I:Ids) (tU8 S t N:Nat) (flex:Option Int) (tags:Option (Nat × Nat)) (fs:Fs):Bool :=
  decide (v0Of flex+nVs fs≤t) && decide (t1Of t flex+aFT (ctxOf flex) fs+tagsT tags+1≤N) && fieldB P S 0 0 && oneB P I.tI16 && okTags P I (ctxOf flex) S tags && okFs P I (ctxOf flex) tU8 S fs
theorem appendTo_calls {P:Program} {I:Ids} {tU8:Nat} {G:List (Nat × Bytes)→Prop} {f S t:Nat} {fn:Func} {flex:Option Int} {tags:Option (Nat × Nat)} {fs:Fs} (hka:KA G P I tU8)
    (hf:P.funcs[f]?=some fn) (hb:fn.body.map strip=some (aTop I S t flex tags fs)) (hr:fn.results=#[.tmp 4]) (hok:okTop P I tU8 S t fn.ntmps flex tags fs=true)
    (w:World) (b o:Nat) (ver:Int) (ts:List Tree) (u:List (Nat × Bytes)) (hbB:b < w.heap.size) (hver:w.cell? ⟨b,o,none⟩=some (.int .i16 ver)) (hv0:0≤ver)
    (hH:HFs G w (· < w.heap.size) ver (flexAt flex ver) fs b o ts) (hT:TagsAt G w (· < w.heap.size) (flexAt flex ver) b o tags u)
    (hlim:(wFs ver (flexAt flex ver) fs ts ++ wTags (flexAt flex ver) u).length≤lim) :
    Calls P f #[.pointer (some ⟨b,o,none⟩),.slice none 0 0] w fun e w'=>∃ dv,e=.returned dv∧Own tU8 w' w.heap.size dv (wFs ver (flexAt flex ver) fs ts ++ wTags (flexAt flex ver) u)∧Below w.heap.size w w':=by
  unfold okTop at hok
  simp only [Bool.and_eq_true,decide_eq_true_eq] at hok
  obtain ⟨⟨⟨⟨⟨h1,h2⟩,h3⟩,h4⟩,h5⟩,h6⟩:=hok
  obtain ⟨c,hc,hs⟩:∃ c,fn.body=some c∧strip c=aTop I S t flex tags fs:=by
    cases hc:fn.body with
    | none=>simp [hc] at hb
    | some c=>exact ⟨c,rfl,by simpa [hc] using hb⟩
  refine calls_of_wp hf hc ?_
  generalize hR:bodyPost P fn _=Q
  suffices h:(aTop I S t flex tags fs).wp P Q { tmps:=#[.pointer (some ⟨b,o,none⟩),.slice none 0 0] ++ Array.replicate (fn.ntmps - 2) undef,defers:=[] } w from h c hs
  have hQ:∀ a w' dv,a.defers=[]→getT a 4=dv→Own tU8 w' w.heap.size dv (wFs ver (flexAt flex ver) fs ts ++ wTags (flexAt flex ver) u)→Below w.heap.size w w'→Q .ret a w':=by
    intro a w' dv hd h4 ho hbl
    subst hR
    exact bodyPost_ret (results_tmp hr _ _ _) hd ⟨_,rfl,by rw [← h4] at ho;exact ho,hbl⟩
  clear hR hs hc hb hf hr
  have hown0:Own tU8 w w.heap.size (.slice none 0 0) []:=World.ownsRow_nil _ _ _ _
  have ht5:6≤t∧t+6≤fn.ntmps:=by cases flex <;> simp [v0Of,t1Of] at h1 h2 <;> omega
  generalize ha0:({ tmps:=#[.pointer (some ⟨b,o,none⟩),.slice none 0 0] ++ Array.replicate (fn.ntmps - 2) undef,defers:=[] }:Act)=a0
  have h00:getT a0 0=.pointer (some ⟨b,o,none⟩):=by rw [← ha0];simp [getT,Array.getD]
  have h01:getT a0 1=.slice none 0 0:=by
    rw [← ha0]
    simp only [getT,Array.getD_eq_getD_getElem?]
    rw [Array.getElem?_append_left (by simp)]
    rfl
  have hd0:a0.defers=[]:=by rw [← ha0]
  have hs0:a0.tmps.size=fn.ntmps:=by rw [← ha0];simp;omega
  clear ha0
  have fin:∀ a1:Act,a1.tmps.size=fn.ntmps→a1.defers=[]→getT a1 0=.pointer (some ⟨b,o,none⟩)→getT a1 1=.slice none 0 0→getT a1 5=.int .i16 ver →
      (seqs (flexPart I t flex ++ ((aFs I (ctxOf flex) S 0 (v0Of flex) (t1Of t flex) 0 fs ++ aTagsL I (ctxOf flex) S 0 tags (t1Of t flex+aFT (ctxOf flex) fs)) ++
        [.reg [mv (t1Of t flex+aFT (ctxOf flex) fs+tagsT tags) 1,asg 4 (t1Of t flex+aFT (ctxOf flex) fs+tagsT tags)],.ret]))).wp P Q a1 w:=by
    intro a1 hs1 hd1 h10 h11 h15
    cases flex with
    | none =>
      simp only [v0Of,t1Of,ctxOf,flexAt,flexPart,List.nil_append] at *
      let X:Fix:=⟨P,I,tU8,G,⟨5,5,true⟩,w,w.heap.size,ver,false,t,fn.ntmps⟩
      have hX:X.ok:=⟨hka,(by omega:(5:Nat) ≠ 1),(by omega:(5:Nat) ≠ 1),(by omega:5 < t),(by omega:5 < t),(by omega:1 < t),fun _=>rfl,Nat.le_refl _,hv0⟩
      exact top_mid (X:=X) hX h1 (by show t≤t+5;omega) h2 (by show 5 < 6;omega) (by show 5 < 6;omega) (by omega) hbB h5 h6 hH hT
        ⟨hs1,hd1,h15,(by intro h;cases h),(by rw [h11];exact hown0),Below.refl _ _,Nat.le_refl _⟩ h10 hlim hQ
    | some n =>
      simp only [v0Of,t1Of,ctxOf,flexAt,flexPart] at *
      rw [List.cons_append,seqs_cons (by simp)]
      refine SC.wp_seq (SC.wp_reg (ops_mv (oNo rfl (opw_cmp (op:=.geq) (k:=.i16) (m:=ver) (n:=n) (r:=decide (n≤ver)) ?_ rfl (by simp) (ops_asg (oNi ?_))))))
      · rw [eTm,gTp (by omega)]
        exact h15
      rw [List.cons_append,List.nil_append,seqs_cons (by simp)]
      refine SC.wp_seq (SC.wp_reg (ops_mv (oNi ?_)))
      let X:Fix:=⟨P,I,tU8,G,⟨5,6,false⟩,w,w.heap.size,ver,decide (n≤ver),t,fn.ntmps⟩
      have hX:X.ok:=⟨hka,(by omega:(5:Nat) ≠ 1),(by omega:(6:Nat) ≠ 1),(by omega:5 < t),(by omega:6 < t),(by omega:1 < t),(fun h=>by cases h),Nat.le_refl _,hv0⟩
      refine top_mid (X:=X) hX h1 (by show t≤t+8;omega) h2 (by show 5 < 7;omega) (by show 6 < 7;omega) (by omega) hbB h5 h6 hH hT
        ⟨?_,?_,?_,?_,?_,Below.refl _ _,Nat.le_refl _⟩ ?_ hlim hQ
      · simp [sPu,hs1];rfl
      · simp [dPu,hd1]
      · show getT _ 5=_
        simp (disch:=omega) [gTn]
        exact h15
      · intro _
        show getT _ 6=_
        simp (disch:=(try simp only [sPu]);omega) [gTp,gTn]
        rfl
      · simp (disch:=omega) [gTn]
        rw [h11];exact hown0
      · simp (disch:=omega) [gTn]
        exact h10
  obtain ⟨rest,hrest⟩:∃ rest,rest=(flexPart I t flex ++ ((aFs I (ctxOf flex) S 0 (v0Of flex) (t1Of t flex) 0 fs ++ aTagsL I (ctxOf flex) S 0 tags (t1Of t flex+aFT (ctxOf flex) fs)) ++
        [.reg [mv (t1Of t flex+aFT (ctxOf flex) fs+tagsT tags) 1,asg 4 (t1Of t flex+aFT (ctxOf flex) fs+tagsT tags)],.ret])):=⟨_,rfl⟩
  have htop:aTop I S t flex tags fs=seqs (.reg [⟨some 4,.assign (.const (.slice none 0 0)),none⟩] :: aLoad S 0 0 I.tI16 5 t :: .reg [mv (t+4) 5] :: rest):=by rw [hrest];rfl
  have hne:rest ≠ []:=by rw [hrest];simp
  rw [← hrest] at fin
  clear hrest
  rw [htop,seqs_cons (by simp)]
  refine SC.wp_seq (SC.wp_reg (oNo rfl (opw_assign (oNi ?_))))
  rw [eCo,seqs_cons (by simp)]
  refine SC.wp_seq (SC.wp_reg (ops_mv (ops_nilc (ad:=⟨b,o,none⟩) ?_ (ops_fa h3 (b:=b) (o:=o) (by rw [gTp (by simp only [sPu];omega)]) ?_))))
  · rw [gTp (by simp only [sPu];omega),gTn (by omega)]
    exact h00
  refine ops_ld h4 (ad:=⟨b,o+0,none⟩) (v:=.int .i16 ver) (by rw [gTp (by simp only [sPu];omega)]) (by rw [Nat.add_zero];exact hver) (ops_asg (oNi ?_))
  rw [seqs_cons hne]
  refine SC.wp_seq (SC.wp_reg (ops_mv (oNi ?_)))
  refine fin _ (by simp [sPu,hs0]) (by simp [dPu,hd0]) ?_ ?_ ?_
  · simp (disch:=omega) [gTn,h00]
  · simp (disch:=omega) [gTn,h01]
  · simp (disch:=(try simp only [sPu]);omega) [gTp,gTn]
end Go.Proofs.YtcchakpiemhpeaaDoor.K
namespace Go.Proofs.YtcchakpiemhpeaaDoor.K
open Go Go.RowKit Go.Proofs.YtcchakpiemhpeaaDoor.T
set_option linter.unusedVariables false
set_option linter.unusedSimpArgs false
def szTy (nul:Bool):Ty→Nat
  | .prim k=>if k=.uuid then 16 else 1
  | .list _ _ _ _=>1
  | .struct _ size _ _ _=>if nul then 1 else size
def nuOf (h:Hd):Bool:=decide (0≤h.null)
mutual
def layTy (nul:Bool):Ty→Bool
  | .prim _=>true
  | .list _ _ size of=>layTy false of && decide (szTy false of≤size)
  | .struct _ size _ tags fs=>layFs 0 (match tags with | none=>size | some (_,off)=>off) fs && (match tags with | none=>true | some (_,off)=>decide (off < size))
def layFs (lo n:Nat):Fs→Bool
  | .nil=>decide (lo≤n)
  | .cons h ty r=>decide (lo≤h.off) && decide (h.off+szTy (nuOf h) ty≤n) && layTy (nuOf h) ty && layFs (h.off+szTy (nuOf h) ty) n r
end
section
variable {G:List (Nat × Bytes)→Prop} {w w':World} {F F':Nat→Prop}
theorem bytesAt_frame {base:Option Addr} {bs:Bytes} (hF:∀ k,F k→F' k∧w'.heap[k]?=w.heap[k]?) (h:BytesAt w F base bs):BytesAt w' F' base bs:=by
  rcases h with h | ⟨b,o,h1,h2,h3⟩
  · exact .inl h
  · exact .inr ⟨b,o,h1,(hF b h2).1,fun j u hu=>by rw [World.cell?_of_block (hF b h2).2];exact h3 j u hu⟩
theorem tagsV_frame {u:List (Nat × Bytes)} {m:Value} (hF:∀ k,F k→F' k∧w'.heap[k]?=w.heap[k]?) (h:TagsV w F u m):TagsV w' F' u m:=by
  rcases h with h | ⟨r,es,clock,h1,h2,h3,h4,h4s,h5⟩
  · exact .inl h
  · refine .inr ⟨r,es,clock,h1,(hF _ h2).1,by rw [(hF _ h2).2];exact h3,h4,h4s,fun e he x hx hk=>?_⟩
    obtain ⟨base,cap,q1,q2⟩:=h5 e he x hx hk
    exact ⟨base,cap,q1,bytesAt_frame hF q2⟩
end
mutual
def frTyB (get:Nat→Option Value) (nul:Bool):Ty→Nat→Bool
  | .prim _,_=>true
  | .list _ _ _ _,o=>match get o with | some (.slice none 0 0)=>true | _=>false
  | .struct _ _ _ _ fs,o=>if nul then (match get o with | some (.pointer none)=>true | _=>false) else frFsB get fs o
def frFsB (get:Nat→Option Value):Fs→Nat→Bool
  | .nil,_=>true
  | .cons h ty r,o=>frTyB get (nuOf h) ty (o+h.off) && frFsB get r o
end
end Go.Proofs.YtcchakpiemhpeaaDoor.K
namespace Go.Proofs.YtcchakpiemhpeaaDoor.K
open Go Go.RowKit Go.Proofs.YtcchakpiemhpeaaDoor.T
set_option linter.unusedVariables false
set_option linter.unusedSimpArgs false
structure RX where
  P:Program
  I:RIds
  TR:Nat
  S:Option Nat
  rb:Nat
  G:List (Nat × Bytes)→Prop
  c:Ctx
  w0:World
  B:Nat
  ver:Int
  flex:Bool
  T0:Nat
  N:Nat
  err:Value
  Gl:World→Prop
  gb:Nat
structure RX.ok (X:RX):Prop where
  kr:KR X.P X.I X.TR X.gb X.err X.Gl
  hgb:X.gb < X.B
  cver:X.c.ver=8
  ten:9 < X.T0
  never:X.c.never=true→X.flex=false
  hB:X.B≤X.rb
  hver:0≤X.ver
  G:∀ u,X.G u
  gl:∀ w,Below X.B X.w0 w→X.Gl w
structure RInv (X:RX) (a:Act) (w:World) (st:Option Bytes):Prop where
  size:a.tmps.size=X.N
  defers:a.defers=[]
  uns:getT a 2=.bool false
  rd:getT a 7=.pointer (some ⟨X.rb,0,none⟩)
  ver:getT a 8=.int .i16 X.ver
  flex:X.c.never=false→getT a 9=.bool X.flex
  at_:RdAt X.TR w X.S X.rb st
  src:∀ sb,X.S=some sb→sb ≠ X.rb∧sb < w.heap.size
  below:Below X.B X.w0 w
  heap:X.B≤w.heap.size
theorem RdAt.lt {TR rb:Nat} {w:World} {S:Option Nat} {st:Option Bytes} (h:RdAt TR w S rb st):rb < w.heap.size:=by
  cases st with
  | none=>exact (Array.getElem?_eq_some_iff.1 h).1
  | some rest =>
    obtain ⟨base,cap,h1,_⟩:=h
    exact (Array.getElem?_eq_some_iff.1 h1).1
theorem RdAt.frame {TR rb:Nat} {w w':World} {S:Option Nat} {st:Option Bytes} (h:RdAt TR w S rb st) (h1:w'.heap[rb]?=w.heap[rb]?) (h2:∀ sb,S=some sb→w'.heap[sb]?=w.heap[sb]?):RdAt TR w' S rb st:=by
  cases st with
  | none =>
    simp only [RdAt] at h ⊢
    rw [h1]
    exact h
  | some rest =>
    simp only [RdAt] at h ⊢
    obtain ⟨base,cap,q1,q2,q3⟩:=h
    refine ⟨base,cap,by rw [h1];exact q1,q2,?_⟩
    cases S with
    | none=>exact q3
    | some sb =>
      obtain ⟨o,k1,k2⟩:=q3
      exact ⟨o,k1,fun j u hu=>by rw [World.cell?_of_block (h2 sb rfl)];exact k2 j u hu⟩
def RSame (X:RX) (a a':Act) (lo t:Nat):Prop:=∀ s,(s < lo∨(X.T0≤s∧s < t))→getT a' s=getT a s
theorem RSame.refl (X:RX) (a:Act) (lo t:Nat):RSame X a a lo t:=fun _ _=>rfl
theorem RSame.trans {X:RX} {a b c:Act} {lo t lo' t':Nat} (h:RSame X a b lo t) (h':RSame X b c lo' t') (hl:lo≤lo') (ht:t≤t'):RSame X a c lo t :=
  fun s h1=>(h' s (by omega)).trans (h s h1)
theorem RSame.mono {X:RX} {a b:Act} {lo t lo' t':Nat} (h:RSame X a b lo' t') (hl:lo≤lo') (ht:t≤t'):RSame X a b lo t :=
  fun s h1=>h s (by omega)
structure Foot (rb b lo hi:Nat) (w w':World):Prop where
  size:w.heap.size≤w'.heap.size
  block:∀ k,k < w.heap.size→k ≠ rb→k ≠ b→w'.heap[k]?=w.heap[k]?
  row:∀ cs T,w.heap[b]?=some (.cells cs T (0,0))→∃ cs',w'.heap[b]?=some (.cells cs' T (0,0))∧cs'.size=cs.size∧∀ j,(j < lo∨hi≤j)→cs'[j]?=cs[j]?
theorem Foot.refl (rb b lo hi:Nat) (w:World):Foot rb b lo hi w w:=⟨Nat.le_refl _,fun _ _ _ _=>rfl,fun cs T h=>⟨cs,h,rfl,fun _ _=>rfl⟩⟩
theorem Foot.mono {rb b lo hi lo' hi':Nat} {w w':World} (h:Foot rb b lo hi w w') (h1:lo'≤lo) (h2:hi≤hi'):Foot rb b lo' hi' w w' :=
  ⟨h.size,h.block,fun cs T hc=>by
    obtain ⟨cs',q1,q2,q3⟩:=h.row cs T hc
    exact ⟨cs',q1,q2,fun j hj=>q3 j (by omega)⟩⟩
theorem Foot.trans {rb b lo hi:Nat} {w w1 w2:World} (h:Foot rb b lo hi w w1) (h':Foot rb b lo hi w1 w2):Foot rb b lo hi w w2 :=
  ⟨Nat.le_trans h.size h'.size,fun k k1 k2 k3=>(h'.block k (Nat.lt_of_lt_of_le k1 h.size) k2 k3).trans (h.block k k1 k2 k3),fun cs T hc=>by
    obtain ⟨cs',q1,q2,q3⟩:=h.row cs T hc
    obtain ⟨cs2,r1,r2,r3⟩:=h'.row cs' T q1
    exact ⟨cs2,r1,r2.trans q2,fun j hj=>(r3 j hj).trans (q3 j hj)⟩⟩
theorem Foot.of_only {rb b lo hi:Nat} {w w':World} (h:Only rb w w') (hn:b ≠ rb):Foot rb b lo hi w w' :=
  ⟨h.size,fun k k1 k2 _=>h.block k k1 k2,fun cs T hc=>⟨cs,by rw [h.block b (Array.getElem?_eq_some_iff.1 hc).1 hn];exact hc,rfl,fun _ _=>rfl⟩⟩
theorem Foot.other {rb b lo hi b' lo' hi':Nat} {w w1 w2:World} (h:Foot rb b lo hi w w1) (h':Foot rb b' lo' hi' w1 w2) (hb':w.heap.size≤b') (hb:b < w.heap.size) (hn:b ≠ rb):Foot rb b lo hi w w2 :=
  ⟨Nat.le_trans h.size h'.size,fun k k1 k2 k3=>(h'.block k (Nat.lt_of_lt_of_le k1 h.size) k2 (by omega)).trans (h.block k k1 k2 k3),fun cs T hc=>by
    obtain ⟨cs',q1,q2,q3⟩:=h.row cs T hc
    exact ⟨cs',by rw [h'.block b (Nat.lt_of_lt_of_le hb h.size) hn (by omega)];exact q1,q2,q3⟩⟩
def RowAt (w:World) (b q n:Nat):Prop:=∃ cs T,w.heap[b]?=some (.cells cs T (0,0))∧q+n≤cs.size
theorem RowAt.mono {w:World} {b q n q' n':Nat} (h:RowAt w b q n) (h1:q'+n'≤q+n):RowAt w b q' n':=by
  obtain ⟨cs,T,q1,q2⟩:=h
  exact ⟨cs,T,q1,by omega⟩
theorem RowAt.lt {w:World} {b q n:Nat} (h:RowAt w b q n):b < w.heap.size:=by
  obtain ⟨cs,T,q1,q2⟩:=h
  exact (Array.getElem?_eq_some_iff.1 q1).1
theorem Foot.cell {rb b lo hi q n:Nat} {w w':World} (h:Foot rb b lo hi w w') (hr:RowAt w b q n) {j:Nat} (hj:j < lo∨hi≤j):w'.cell? ⟨b,j,none⟩=w.cell? ⟨b,j,none⟩:=by
  obtain ⟨cs,T,q1,q2⟩:=hr
  obtain ⟨cs',r1,r2,r3⟩:=h.row cs T q1
  rw [cell_of_row _ _ _ _ _ _ q1,cell_of_row _ _ _ _ _ _ r1]
  exact r3 j hj
structure Opn (X:RX) (O:Nat→Prop) (b:Nat) (w:World):Prop where
  orb:O X.rb
  ob:O b
  lt:∀ k,O k→k < w.heap.size
  src:∀ sb,X.S=some sb→¬ O sb
  ne:b ≠ X.rb
  hB:X.B≤b
theorem Opn.mono {X:RX} {O:Nat→Prop} {b:Nat} {w w':World} (h:Opn X O b w) (hs:w.heap.size≤w'.heap.size):Opn X O b w' :=
  ⟨h.orb,h.ob,fun k hk=>Nat.lt_of_lt_of_le (h.lt k hk) hs,h.src,h.ne,h.hB⟩
section
variable {X:RX} {a a':Act} {w w':World} {st:Option Bytes} {Q:Exit→Act→World→Prop}
theorem RInv.act (h:RInv X a w st) (hs:a'.tmps.size=a.tmps.size) (hd:a'.defers=a.defers) (hk:∀ s,s < 10→getT a' s=getT a s):RInv X a' w st :=
  ⟨hs.trans h.size,hd.trans h.defers,(hk 2 (by omega)).trans h.uns,(hk 7 (by omega)).trans h.rd,(hk 8 (by omega)).trans h.ver,fun hn=>(hk 9 (by omega)).trans (h.flex hn),h.at_,h.src,h.below,h.heap⟩
theorem RInv.alloc (h:RInv X a w st) (o:Obj):RInv X a (w.alloc o) st:=by
  have hlt:=h.at_.lt
  exact ⟨h.size,h.defers,h.uns,h.rd,h.ver,h.flex,
    h.at_.frame (Below.heap_alloc _ _ _ hlt) (fun sb hsb=>Below.heap_alloc _ _ _ (h.src sb hsb).2),
    fun sb hsb=>⟨(h.src sb hsb).1,by simp;have:=(h.src sb hsb).2;omega⟩,h.below.alloc h.heap o,by simp;have:=h.heap;omega⟩
theorem RInv.drew (h:RInv X a w st):RInv X a w.drew st:=by
  refine ⟨h.size,h.defers,h.uns,h.rd,h.ver,h.flex,h.at_.frame rfl (fun _ _=>rfl),h.src,h.below.drew,h.heap⟩
theorem RInv.setRow (h:RInv X a w st) {b:Nat} (hn:b ≠ X.rb) (hS:X.S ≠ some b) (hB:X.B≤b) (cs:Array Value):RInv X a (w.setRow b cs) st :=
  ⟨h.size,h.defers,h.uns,h.rd,h.ver,h.flex,
    h.at_.frame (setRow_other _ _ _ _ (Ne.symm hn)) (fun sb hsb=>setRow_other _ _ _ _ (fun e=>hS (by rw [hsb,e]))),
    fun sb hsb=>⟨(h.src sb hsb).1,by simpa using (h.src sb hsb).2⟩,h.below.trans ⟨rfl,rfl,rfl,by simp,fun k hk=>setRow_other _ _ _ _ (by omega)⟩,by simpa using h.heap⟩
end
end Go.Proofs.YtcchakpiemhpeaaDoor.K
namespace Go.Proofs.YtcchakpiemhpeaaDoor.K
open Go Go.RowKit Go.Proofs.YtcchakpiemhpeaaDoor.T
set_option linter.unusedVariables false
set_option linter.unusedSimpArgs false
section
variable {X:RX} {a a':Act} {w w':World} {st:Option Bytes} {Q:Exit→Act→World→Prop}
theorem RInv.only {st':Option Bytes} (hX:X.ok) (h:RInv X a w st) (ho:Only X.rb w w') (hr:RdAt X.TR w' X.S X.rb st'):RInv X a w' st' :=
  ⟨h.size,h.defers,h.uns,h.rd,h.ver,h.flex,hr,fun sb hsb=>⟨(h.src sb hsb).1,Nat.lt_of_lt_of_le (h.src sb hsb).2 ho.size⟩,h.below.trans (ho.below hX.hB h.heap),Nat.le_trans h.heap ho.size⟩
def okRP (I:RIds) (c:Ctx) (nul:Bool) (k:PK):Bool :=
  match k with
  | .str=>if nul then (c.never || I.rCNStr != 0) && I.rNStr != 0 else (c.never || I.rCStr != 0) && I.rStr != 0
  | .bytes=>if nul then c.never && I.rNBytes != 0 else (c.never || I.rCBytes != 0) && I.rBytes != 0
  | .uuid=>!nul && I.rUuid != 0
  | k=>!nul && rNum I k != 0
end
end Go.Proofs.YtcchakpiemhpeaaDoor.K
