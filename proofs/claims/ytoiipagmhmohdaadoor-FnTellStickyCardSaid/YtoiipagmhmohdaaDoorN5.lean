/- Generic texts: Z1 Z2 R1 R2 D1 K9 K10 R3 R4 R5. No condition. -/
import Derived.Test.YtoiipagmhmohdaaDoorN4
import Derived.ChangeArms
import Derived.Deep.Slices
import Derived.OpenShut
import Derived.Lib.AppendZeros
namespace Go.Proofs.YtoiipagmhmohdaaDoor.K
open Go Go.RowKit Go.Proofs.YtoiipagmhmohdaaDoor.T
open Go.ChangeShapes Go.WideShapes Go.Deep
set_option linter.unusedSimpArgs false
set_option linter.unusedVariables false
structure BulkC {H:Type} (B:DataW H→Nat):Prop where
  one:∀ d,1≤B d
  slice:∀ es sp,1+(es.map B).sum≤B (.slice es sp)
  agg:∀ ps,1+(ps.map B).sum≤B (.agg ps)
section
variable {H:Type} {enc:TypeId × Value→H} {P:Program} {w:World} {B:DataW H→Nat}
theorem addr_of {a:Addr} {n:Nat} {cs:List Value} (h:w.cells? 0 a n=some cs) (hn:0 < n):a=⟨a.block,a.off,none⟩∧a.block < w.heap.size:=by
  obtain ⟨_,hl,hc⟩:=World.cells?_some h
  have h0:=hc 0 hn
  have e0:a.add 0=a:=by simp [Addr.add]
  rw [e0,List.getElem?_eq_getElem (by omega)] at h0
  have hs:a.spot=none∧a.block < w.heap.size:=by
    simp only [World.cell?] at h0
    split at h0
    · rename_i hb
      split at h0
      · cases h0
      · rename_i hs
        exact ⟨by cases hq:a.spot <;> simp_all,(Array.getElem?_eq_some_iff.1 hb).1⟩
    · cases h0
  refine ⟨?_,hs.2⟩
  cases a
  simp only at hs
  rw [hs.1]
theorem range_of {b o n:Nat} {cs:List Value} (h:w.cells? 0 ⟨b,o,none⟩ n=some cs):rangeV w b o n=some cs:=by
  obtain ⟨_,hl,hc⟩:=World.cells?_some h
  rw [← hl]
  refine rangeV_of cs o fun j v hj=>?_
  have hlt:j < cs.length:=(List.getElem?_eq_some_iff.1 hj).1
  rw [← hj,← hc j (by omega),add_none]
theorem open_els {t e k fuel:Nat} {cs:List Value} {x:DataW H × List MemPlace} (ht:P.underlying t=some (.slice e)) (hk:P.cellsOf e=k) (hk0:0 < k) (h:DataW.trod enc P w 0 (fun _=>true) true fuel t cs=some x) (hB:BulkC B) :
    ∃ (base:Option Addr) (cap n b o:Nat) (es:List (DataW H × List MemPlace)),fuel=n+1∧cs=[.slice base es.length cap]∧es.length≤cap∧1+(es.map fun y=>B y.1).sum≤B x.1∧(es ≠ []→base=some ⟨b,o,none⟩∧b < w.heap.size) ∧
      ∀ (i:Nat) (y:DataW H × List MemPlace),es[i]?=some y→∃ cs',rangeV w b (o+i * k) k=some cs'∧cs'.length=k∧DataW.trod enc P w 0 (fun _=>true) true n e cs'=some y:=by
  rcases DataW.trod_slice ht h with ⟨rfl,rfl⟩ | ⟨a,len,cap,elems,rest,n,rfl,rfl,rfl,hb,hl,hm,hlen,hel,hsp,hns⟩
  · cases fuel with
    | zero=>simp [DataW.trod] at h
    | succ n=>exact ⟨none,0,n,0,0,[],rfl,rfl,Nat.le_refl _,by simpa using hB.one _,fun h=>absurd rfl h,fun i y hy=>by simp at hy⟩
  · subst hk
    have hev:∀ (i:Nat) (y:DataW H × List MemPlace),elems[i]?=some y→∃ cs',w.cells? 0 (a.add (i * P.cellsOf e)) (P.cellsOf e)=some cs'∧DataW.trod enc P w 0 (fun _=>true) true n e cs'=some y:=by
      intro i y hy
      have hi:i < len:=by rw [← hlen];exact (List.getElem?_eq_some_iff.1 hy).1
      have:=hel i hi
      rw [hy] at this
      exact Option.bind_eq_some_iff.1 this
    have hsum:1+(elems.map fun y=>B y.1).sum≤B (.slice (elems.map (·.1)) (rest.map (·.1))):=by
      have:=hB.slice (elems.map (·.1)) (rest.map (·.1))
      rwa [List.map_map] at this
    refine ⟨some a,cap,n,a.block,a.off,elems,rfl,by rw [hlen],by omega,hsum,fun hne=>?_,fun i y hy=>?_⟩
    · obtain ⟨y,hy⟩:∃ y,elems[0]?=some y:=by
        cases elems with
        | nil=>exact absurd rfl hne
        | cons y r=>exact ⟨y,rfl⟩
      obtain ⟨cs',hc,_⟩:=hev 0 y hy
      rw [Nat.zero_mul,show a.add 0=a by simp [Addr.add]] at hc
      obtain ⟨e1,e2⟩:=addr_of hc hk0
      exact ⟨by rw [← e1],e2⟩
    · have ha:a=⟨a.block,a.off,none⟩:=by
        obtain ⟨y0,hy0⟩:∃ y,elems[0]?=some y:=by
          cases elems with
          | nil=>simp at hy
          | cons y r=>exact ⟨y,rfl⟩
        obtain ⟨cs',hc,_⟩:=hev 0 y0 hy0
        rw [Nat.zero_mul,show a.add 0=a by simp [Addr.add]] at hc
        exact (addr_of hc hk0).1
      obtain ⟨cs',hc,h2⟩:=hev i y hy
      rw [ha,add_none] at hc
      exact ⟨cs',range_of hc,(World.cells?_some hc).2.1,h2⟩
end
end Go.Proofs.YtoiipagmhmohdaaDoor.K
namespace Go.Proofs.YtoiipagmhmohdaaDoor.K
open Go Go.RowKit Go.Proofs.YtoiipagmhmohdaaDoor.T
set_option linter.unusedVariables false
set_option linter.unusedSimpArgs false
def zeroB (P:Program) (T:Nat) (q:List Value→Bool):Bool:=match P.info? T with
  | some i=>(match i.zero with
    | some z=>q z.cells.toList
    | none=>false)
  | none=>false
theorem zeroB_of {P:Program} {T:Nat} {q:List Value→Bool} (h:zeroB P T q=true):∃ i z,P.info? T=some i∧i.zero=some z∧q z.cells.toList=true:=by
  unfold zeroB at h
  split at h
  · rename_i i hi
    split at h
    · rename_i z hz
      exact ⟨i,z,hi,hz,h⟩
    · cases h
  · cases h
end Go.Proofs.YtoiipagmhmohdaaDoor.K
namespace Go.Proofs.YtoiipagmhmohdaaDoor.K
open Go Go.Proofs.YtoiipagmhmohdaaDoor.T
set_option linter.unusedVariables false
set_option linter.unusedSimpArgs false
structure RIds where
  tRd:Nat
  tTags:Nat
  tI8:Nat
  tI16:Nat
  tI32:Nat
  tBool:Nat
  rBool:Nat
  rI8:Nat
  rI16:Nat
  rI32:Nat
  rI64:Nat
  rU16:Nat
  rUuid:Nat
  rStr:Nat
  rUStr:Nat
  rCStr:Nat
  rUCStr:Nat
  rNStr:Nat
  rUNStr:Nat
  rCNStr:Nat
  rUCNStr:Nat
  rBytes:Nat
  rCBytes:Nat
  rNBytes:Nat
  rArr:Nat
  rCArr:Nat
  rOk:Nat
  rCompl:Nat
  rTags:Nat
def rTextT (c:Ctx):Nat:=if c.never then 3 else 7
def rNum (I:RIds):PK→Nat
  | .bool=>I.rBool | .i8=>I.rI8 | .i16=>I.rI16 | .i32=>I.rI32 | .i64=>I.rI64 | .u16=>I.rU16 | _=>I.rNBytes
def rPrimT (c:Ctx) (nul:Bool) (k:PK):Nat:=if k=.str then rTextT c else if k=.bytes∧c.never=false then 3 else 1
def rTagsT (tags:Option (Nat × Nat)):Nat:=if tags.isSome then 5 else 0
def rLenT (c:Ctx):Nat:=if c.never then 1 else 3
def rNilT (h:Hd):Nat:=if 0≤h.null then 7 else 0
mutual
def rV:Hd→Ty→Nat
  | h,.prim _=>if h.enum then 3 else 1
  | _,.list _ _ _ of=>4+rVE of
  | h,.struct _ _ _ _ fs=>(if 0≤h.null then 3 else 2)+rVs fs
def rVE:Ty→Nat
  | .prim _=>1
  | .list _ _ _ _=>0
  | .struct _ _ _ _ fs=>2+rVs fs
def rVs:Fs→Nat
  | .nil=>0
  | .cons h ty r=>rV h ty+rVs r
end
mutual
def rET (c:Ctx):Ty→Nat
  | .prim k=>if k=.uuid then 1+4 else rPrimT c false k+4
  | .list _ _ _ _=>0
  | .struct _ _ _ tags fs=>3+2+1+rFT c fs+rTagsT tags
def rVT (c:Ctx) (h:Hd):Ty→Nat
  | .prim k=>if k=.uuid then 1+4 else if h.enum then 3+4 else rPrimT c (decide (0≤h.null)) k+4
  | .list _ _ _ of=>4+1+rLenT c+rNilT h+3+2+5+5+rET c of+1+4
  | .struct _ _ _ tags fs=>(if 0≤h.null then 6+4+4+2+1 else 3+2+1)+rFT c fs+rTagsT tags
def rFT (c:Ctx):Fs→Nat
  | .nil=>0
  | .cons h ty r=>vTmps h+rVT c h ty+rFT c r
end
def rS:Option Int→Nat
  | none=>9
  | some _=>10
def rCtx:Option Int→Ctx
  | none=>⟨8,9,true⟩
  | some _=>⟨8,9,false⟩
def rT1 (t:Nat):Option Int→Nat
  | none=>t+9
  | some _=>t+12
end Go.Proofs.YtoiipagmhmohdaaDoor.K
namespace Go.Proofs.YtoiipagmhmohdaaDoor.K
open Go Go.RowKit Go.Proofs.YtoiipagmhmohdaaDoor.T
set_option linter.unusedSimpArgs false
set_option linter.unusedVariables false
def RdAt (TR:Nat) (w:World) (S:Option Nat) (rb:Nat):Option Bytes→Prop
  | none=>w.heap[rb]?=some (.cells #[.slice none 0 0,.bool true] TR (0,0))
  | some rest=>∃ base cap,w.heap[rb]?=some (.cells #[.slice base rest.length cap,.bool false] TR (0,0))∧rest.length≤cap ∧
      match S with
      | none=>base=none∧rest=[]
      | some sb=>∃ o,base=some ⟨sb,o,none⟩∧∀ j u,rest[j]?=some u→w.cell? ⟨sb,o+j,none⟩=some (cell u)
structure Only (rb:Nat) (w w':World):Prop where
  os:w'.os=w.os
  tape:w'.tape=w.tape
  output:w'.output=w.output
  size:w.heap.size≤w'.heap.size
  block:∀ k,k < w.heap.size→k ≠ rb→w'.heap[k]?=w.heap[k]?
theorem Only.refl (rb:Nat) (w:World):Only rb w w:=⟨rfl,rfl,rfl,Nat.le_refl _,fun _ _ _=>rfl⟩
theorem Only.trans {rb:Nat} {a b c:World} (h:Only rb a b) (k:Only rb b c):Only rb a c :=
  ⟨k.os.trans h.os,k.tape.trans h.tape,k.output.trans h.output,Nat.le_trans h.size k.size,fun i hi hn=>(k.block i (Nat.lt_of_lt_of_le hi h.size) hn).trans (h.block i hi hn)⟩
theorem Only.alloc {rb:Nat} {a w:World} (h:Only rb a w) (o:Obj):Only rb a (w.alloc o) :=
  h.trans ⟨rfl,rfl,rfl,by simp,fun k hk _=>Below.heap_alloc _ _ _ hk⟩
theorem Only.drew {rb:Nat} {a w:World} (h:Only rb a w):Only rb a w.drew:=⟨h.os,h.tape,h.output,h.size,h.block⟩
theorem Only.setRow {rb:Nat} {a w:World} (h:Only rb a w) (cs:Array Value):Only rb a (w.setRow rb cs) :=
  h.trans ⟨rfl,rfl,rfl,by simp,fun k _ hn=>setRow_other _ _ _ _ hn⟩
theorem Only.own {rb b:Nat} {a w:World} (h:Only rb a w) (hb:a.heap.size≤b) (cs:Array Value):Only rb a (w.setRow b cs) :=
  ⟨h.os,h.tape,h.output,by simpa using h.size,fun k hk hn=>(setRow_other _ _ _ _ (by omega)).trans (h.block k hk hn)⟩
theorem Only.below {rb B:Nat} {w w':World} (h:Only rb w w') (hB:B≤rb) (hs:B≤w.heap.size):Below B w w' :=
  ⟨h.os,h.tape,h.output,h.size,fun k hk=>h.block k (by omega) (by omega)⟩
theorem Only.cell {rb:Nat} {w w':World} (h:Only rb w w') {a:Addr} (hk:a.block < w.heap.size) (hn:a.block ≠ rb):w'.cell? a=w.cell? a:=World.cell?_of_block (h.block _ hk hn)
def after {α:Type} (st:Option Bytes) (p:Rd α):Option Bytes:=st.bind fun b=>(p b).map (·.2)
theorem after_ok {α:Type} {b r:Bytes} {x:α} {p:Rd α} (h:p b=some (x,r)):after (some b) p=some r:=by simp [after,h]
theorem after_no {α:Type} {b:Bytes} {p:Rd α} (h:p b=none):after (some b) p=none:=by simp [after,h]
theorem after_rOk {α:Type} (st:Option Bytes) (x:α):after st (rOk x)=st:=by cases st <;> rfl
theorem after_then {α β:Type} (st:Option Bytes) (p:Rd α) (f:α→Rd β) {x:α} {b r:Bytes} (hs:st=some b) (h:p b=some (x,r)):after st (rThen p f)=after (some r) (f x):=by
  subst hs
  simp [after,rThen_of h]
theorem after_then_none {α β:Type} {st:Option Bytes} {p:Rd α} {f:α→Rd β} (h:after st p=none):after st (rThen p f)=none:=by
  cases st with
  | none=>rfl
  | some b =>
    cases hp:p b with
    | none=>simp [after,rThen,hp]
    | some z=>simp [after,hp] at h
def NewF (S:Option Nat) (w w':World):Nat→Prop:=fun k=>S=some k∨(w.heap.size≤k∧k < w'.heap.size)
def RC {α:Type} (P:Program) (TR gb:Nat) (f:FuncId) (p:Rd α) (ty:Value→Prop) (ok:World→(Nat→Prop)→α→Value→Prop):Prop :=
  FnOK P f∧∀ (w:World) (S:Option Nat) (rb:Nat) (st:Option Bytes),gb < w.heap.size→RdAt TR w S rb st→(∀ sb,S=some sb→sb ≠ rb∧sb < w.heap.size) →
    Calls P f #[.pointer (some ⟨rb,0,none⟩)] w fun e w'=>∃ v,e=.returned v∧RdAt TR w' S rb (after st p)∧Only rb w w'∧ty v ∧
      ∀ b x r,st=some b→p b=some (x,r)→ok w' (NewF S w w') x v
def tyP (nul:Bool):PK→Value→Prop
  | .bool,v=>∃ x,v=.bool x
  | .i8,v=>∃ n,v=.int .i8 n
  | .i16,v=>∃ n,v=.int .i16 n
  | .i32,v=>∃ n,v=.int .i32 n
  | .i64,v=>∃ n,v=.int .i64 n
  | .u16,v=>∃ n,v=.int .u16 n
  | .uuid,v=>∃ bs:Bytes,bs.length=16∧v=.agg (cellsOf bs).toArray
  | .str,v=>if nul then ∃ q,v=.pointer q else ∃ s,v=.string s
  | .bytes,v=>∃ b l c,v=.slice b l c
def okP (nul:Bool) (k:PK) (w:World) (F:Nat→Prop) (t:Tree) (v:Value):Prop:=t.s.length≤most→(if k=.uuid then v=.agg (cellsOf (uuidOf t)).toArray else PVal w F nul t k v)
def PK.num:PK→Bool
  | .bool=>true | .i8=>true | .i16=>true | .i32=>true | .i64=>true | .u16=>true | _=>false
def TagsV (w:World) (F:Nat→Prop) (u:List (Nat × Bytes)) (m:Value):Prop :=
  (m=.map none∧u=[])∨∃ r es clock,m=.map (some r)∧F r∧w.heap[r]?=some (.map es clock)∧TagsEs w F es clock u
structure KR (P:Program) (I:RIds) (TR gb:Nat) (err:Value) (Gl:World→Prop):Prop where
  num:∀ k,PK.num k=true→rNum I k ≠ 0→RC P TR gb (rNum I k) (pPrim false false k) (tyP false k) (okP false k)
  uuid:I.rUuid ≠ 0→RC P TR gb I.rUuid (pPrim false false .uuid) (tyP false .uuid) (okP false .uuid)
  str:I.rStr ≠ 0→RC P TR gb I.rStr (pPrim false false .str) (tyP false .str) (okP false .str)
  cstr:I.rCStr ≠ 0→RC P TR gb I.rCStr (pPrim true false .str) (tyP false .str) (okP false .str)
  nstr:I.rNStr ≠ 0→RC P TR gb I.rNStr (pPrim false true .str) (tyP true .str) (okP true .str)
  cnstr:I.rCNStr ≠ 0→RC P TR gb I.rCNStr (pPrim true true .str) (tyP true .str) (okP true .str)
  bytes:I.rBytes ≠ 0→RC P TR gb I.rBytes (pPrim false false .bytes) (tyP false .bytes) (okP false .bytes)
  cbytes:I.rCBytes ≠ 0→RC P TR gb I.rCBytes (pPrim true false .bytes) (tyP false .bytes) (okP false .bytes)
  nbytes:I.rNBytes ≠ 0→RC P TR gb I.rNBytes (pPrim false true .bytes) (tyP true .bytes) (okP true .bytes)
  arr:I.rArr ≠ 0→RC P TR gb I.rArr (pLen false) (fun v=>∃ n,v=.int .i32 n) (fun _ _ n v=>v=.int .i32 n)
  carr:I.rCArr ≠ 0→RC P TR gb I.rCArr (pLen true) (fun v=>∃ n,v=.int .i32 n) (fun _ _ n v=>v=.int .i32 n)
  tags:I.rTags ≠ 0→RC P TR gb I.rTags (pTags true) (fun v=>∃ m,v=.agg #[m]∧m.oneCell'=true) (fun w F u v=>∃ m,v=.agg #[m]∧TagsV w F u m)
  okF:I.rOk ≠ 0→FnOK P I.rOk
  ok:I.rOk ≠ 0→∀ (w:World) (S:Option Nat) (rb:Nat) (st:Option Bytes),RdAt TR w S rb st→Calls P I.rOk #[.pointer (some ⟨rb,0,none⟩)] w fun e w'=>e=.returned (.bool st.isSome)∧w'=w
  complF:FnOK P I.rCompl
  compl:∀ (w:World) (S:Option Nat) (rb:Nat) (st:Option Bytes),Gl w→RdAt TR w S rb st→Calls P I.rCompl #[.pointer (some ⟨rb,0,none⟩)] w fun e w'=>e=.returned (if st.isSome then .nilIface else err)∧w'=w
end Go.Proofs.YtoiipagmhmohdaaDoor.K
namespace Go.Proofs.YtoiipagmhmohdaaDoor.K
open Go Go.RowKit Go.Proofs.YtoiipagmhmohdaaDoor.T
set_option linter.unusedSimpArgs false
set_option linter.unusedVariables false
structure DSt where
  at_:List (Nat × Nat)
  out:List (Nat × Value)
def DSt.put (s:DSt) (t x:Nat):DSt:=⟨(t,x) :: s.at_,s.out⟩
end Go.Proofs.YtoiipagmhmohdaaDoor.K
namespace Go.Proofs.YtoiipagmhmohdaaDoor.K
open Go Go.RowKit Go.Proofs.YtoiipagmhmohdaaDoor.T
set_option linter.unusedVariables false
set_option linter.unusedSimpArgs false
attribute [local simp] eTm eCo pNo gTp gTn qv qcall vop iop
section
variable {X:Fix}
theorem AFragP.keep {x:SC} {pre post:Act→Prop} {lo t:Nat} {o:Bytes} (h:AFragP X x pre post lo t o) (hst:∀ a a',Same X a a' lo t→pre a→pre a'):AFragP X x pre (fun a=>pre a∧post a) lo t o :=
  fun a w xs Q hi hp hlen hQ=>h a w xs Q hi hp hlen fun a' w' h1 h2 h3=>hQ a' w' h1 h2 ⟨hst _ _ h2 hp,h3⟩
end
end Go.Proofs.YtoiipagmhmohdaaDoor.K
namespace Go.Proofs.YtoiipagmhmohdaaDoor.K
open Go Go.RowKit Go.Proofs.YtoiipagmhmohdaaDoor.T
set_option linter.unusedVariables false
set_option linter.unusedSimpArgs false
attribute [local simp] eTm eCo pNo gTp gTn qv qcall vop iop
section
variable {X:Fix}
end
end Go.Proofs.YtoiipagmhmohdaaDoor.K
namespace Go.Proofs.YtoiipagmhmohdaaDoor.K
open Go Go.RowKit Go.Proofs.YtoiipagmhmohdaaDoor.T
set_option linter.unusedVariables false
set_option linter.unusedSimpArgs false
def szTy (nul:Bool):Ty→Nat
  | .prim k=>if k=.uuid then 16 else 1
  | .list _ _ _ _=>1
  | .struct _ size _ _ _=>if nul then 1 else size
def nuOf (h:Hd):Bool:=decide (0≤h.null)
mutual
def layTy (nul:Bool):Ty→Bool
  | .prim _=>true
  | .list _ _ size of=>layTy false of && decide (szTy false of≤size)
  | .struct _ size _ tags fs=>layFs 0 (match tags with | none=>size | some (_,off)=>off) fs && (match tags with | none=>true | some (_,off)=>decide (off < size))
def layFs (lo n:Nat):Fs→Bool
  | .nil=>decide (lo≤n)
  | .cons h ty r=>decide (lo≤h.off) && decide (h.off+szTy (nuOf h) ty≤n) && layTy (nuOf h) ty && layFs (h.off+szTy (nuOf h) ty) n r
end
section
variable {G:List (Nat × Bytes)→Prop} {w w':World} {F F':Nat→Prop}
end
mutual
def frTyB (get:Nat→Option Value) (nul:Bool):Ty→Nat→Bool
  | .prim _,_=>true
  | .list _ _ _ _,o=>match get o with | some (.slice none 0 0)=>true | _=>false
  | .struct _ _ _ _ fs,o=>if nul then (match get o with | some (.pointer none)=>true | _=>false) else frFsB get fs o
def frFsB (get:Nat→Option Value):Fs→Nat→Bool
  | .nil,_=>true
  | .cons h ty r,o=>frTyB get (nuOf h) ty (o+h.off) && frFsB get r o
end
end Go.Proofs.YtoiipagmhmohdaaDoor.K
namespace Go.Proofs.YtoiipagmhmohdaaDoor.K
open Go Go.RowKit Go.Proofs.YtoiipagmhmohdaaDoor.T
set_option linter.unusedVariables false
set_option linter.unusedSimpArgs false
structure RX where
  P:Program
  I:RIds
  TR:Nat
  S:Option Nat
  rb:Nat
  G:List (Nat × Bytes)→Prop
  c:Ctx
  w0:World
  B:Nat
  ver:Int
  flex:Bool
  T0:Nat
  N:Nat
  err:Value
  Gl:World→Prop
  gb:Nat
structure RX.ok (X:RX):Prop where
  kr:KR X.P X.I X.TR X.gb X.err X.Gl
  hgb:X.gb < X.B
  cver:X.c.ver=8
  ten:9 < X.T0
  never:X.c.never=true→X.flex=false
  hB:X.B≤X.rb
  hver:0≤X.ver
  G:∀ u,X.G u
  gl:∀ w,Below X.B X.w0 w→X.Gl w
structure RInv (X:RX) (a:Act) (w:World) (st:Option Bytes):Prop where
  size:a.tmps.size=X.N
  defers:a.defers=[]
  uns:getT a 2=.bool false
  rd:getT a 7=.pointer (some ⟨X.rb,0,none⟩)
  ver:getT a 8=.int .i16 X.ver
  flex:X.c.never=false→getT a 9=.bool X.flex
  at_:RdAt X.TR w X.S X.rb st
  src:∀ sb,X.S=some sb→sb ≠ X.rb∧sb < w.heap.size
  below:Below X.B X.w0 w
  heap:X.B≤w.heap.size
theorem RdAt.lt {TR rb:Nat} {w:World} {S:Option Nat} {st:Option Bytes} (h:RdAt TR w S rb st):rb < w.heap.size:=by
  cases st with
  | none=>exact (Array.getElem?_eq_some_iff.1 h).1
  | some rest =>
    obtain ⟨base,cap,h1,_⟩:=h
    exact (Array.getElem?_eq_some_iff.1 h1).1
theorem RdAt.frame {TR rb:Nat} {w w':World} {S:Option Nat} {st:Option Bytes} (h:RdAt TR w S rb st) (h1:w'.heap[rb]?=w.heap[rb]?) (h2:∀ sb,S=some sb→w'.heap[sb]?=w.heap[sb]?):RdAt TR w' S rb st:=by
  cases st with
  | none =>
    simp only [RdAt] at h ⊢
    rw [h1]
    exact h
  | some rest =>
    simp only [RdAt] at h ⊢
    obtain ⟨base,cap,q1,q2,q3⟩:=h
    refine ⟨base,cap,by rw [h1];exact q1,q2,?_⟩
    cases S with
    | none=>exact q3
    | some sb =>
      obtain ⟨o,k1,k2⟩:=q3
      exact ⟨o,k1,fun j u hu=>by rw [World.cell?_of_block (h2 sb rfl)];exact k2 j u hu⟩
def RSame (X:RX) (a a':Act) (lo t:Nat):Prop:=∀ s,(s < lo∨(X.T0≤s∧s < t))→getT a' s=getT a s
theorem RSame.refl (X:RX) (a:Act) (lo t:Nat):RSame X a a lo t:=fun _ _=>rfl
theorem RSame.trans {X:RX} {a b c:Act} {lo t lo' t':Nat} (h:RSame X a b lo t) (h':RSame X b c lo' t') (hl:lo≤lo') (ht:t≤t'):RSame X a c lo t :=
  fun s h1=>(h' s (by omega)).trans (h s h1)
theorem RSame.mono {X:RX} {a b:Act} {lo t lo' t':Nat} (h:RSame X a b lo' t') (hl:lo≤lo') (ht:t≤t'):RSame X a b lo t :=
  fun s h1=>h s (by omega)
structure Foot (rb b lo hi:Nat) (w w':World):Prop where
  size:w.heap.size≤w'.heap.size
  block:∀ k,k < w.heap.size→k ≠ rb→k ≠ b→w'.heap[k]?=w.heap[k]?
  row:∀ cs T,w.heap[b]?=some (.cells cs T (0,0))→∃ cs',w'.heap[b]?=some (.cells cs' T (0,0))∧cs'.size=cs.size∧∀ j,(j < lo∨hi≤j)→cs'[j]?=cs[j]?
theorem Foot.refl (rb b lo hi:Nat) (w:World):Foot rb b lo hi w w:=⟨Nat.le_refl _,fun _ _ _ _=>rfl,fun cs T h=>⟨cs,h,rfl,fun _ _=>rfl⟩⟩
theorem Foot.mono {rb b lo hi lo' hi':Nat} {w w':World} (h:Foot rb b lo hi w w') (h1:lo'≤lo) (h2:hi≤hi'):Foot rb b lo' hi' w w' :=
  ⟨h.size,h.block,fun cs T hc=>by
    obtain ⟨cs',q1,q2,q3⟩:=h.row cs T hc
    exact ⟨cs',q1,q2,fun j hj=>q3 j (by omega)⟩⟩
theorem Foot.trans {rb b lo hi:Nat} {w w1 w2:World} (h:Foot rb b lo hi w w1) (h':Foot rb b lo hi w1 w2):Foot rb b lo hi w w2 :=
  ⟨Nat.le_trans h.size h'.size,fun k k1 k2 k3=>(h'.block k (Nat.lt_of_lt_of_le k1 h.size) k2 k3).trans (h.block k k1 k2 k3),fun cs T hc=>by
    obtain ⟨cs',q1,q2,q3⟩:=h.row cs T hc
    obtain ⟨cs2,r1,r2,r3⟩:=h'.row cs' T q1
    exact ⟨cs2,r1,r2.trans q2,fun j hj=>(r3 j hj).trans (q3 j hj)⟩⟩
theorem Foot.of_only {rb b lo hi:Nat} {w w':World} (h:Only rb w w') (hn:b ≠ rb):Foot rb b lo hi w w' :=
  ⟨h.size,fun k k1 k2 _=>h.block k k1 k2,fun cs T hc=>⟨cs,by rw [h.block b (Array.getElem?_eq_some_iff.1 hc).1 hn];exact hc,rfl,fun _ _=>rfl⟩⟩
theorem Foot.other {rb b lo hi b' lo' hi':Nat} {w w1 w2:World} (h:Foot rb b lo hi w w1) (h':Foot rb b' lo' hi' w1 w2) (hb':w.heap.size≤b') (hb:b < w.heap.size) (hn:b ≠ rb):Foot rb b lo hi w w2 :=
  ⟨Nat.le_trans h.size h'.size,fun k k1 k2 k3=>(h'.block k (Nat.lt_of_lt_of_le k1 h.size) k2 (by omega)).trans (h.block k k1 k2 k3),fun cs T hc=>by
    obtain ⟨cs',q1,q2,q3⟩:=h.row cs T hc
    exact ⟨cs',by rw [h'.block b (Nat.lt_of_lt_of_le hb h.size) hn (by omega)];exact q1,q2,q3⟩⟩
def RowAt (w:World) (b q n:Nat):Prop:=∃ cs T,w.heap[b]?=some (.cells cs T (0,0))∧q+n≤cs.size
theorem RowAt.mono {w:World} {b q n q' n':Nat} (h:RowAt w b q n) (h1:q'+n'≤q+n):RowAt w b q' n':=by
  obtain ⟨cs,T,q1,q2⟩:=h
  exact ⟨cs,T,q1,by omega⟩
theorem RowAt.lt {w:World} {b q n:Nat} (h:RowAt w b q n):b < w.heap.size:=by
  obtain ⟨cs,T,q1,q2⟩:=h
  exact (Array.getElem?_eq_some_iff.1 q1).1
theorem Foot.cell {rb b lo hi q n:Nat} {w w':World} (h:Foot rb b lo hi w w') (hr:RowAt w b q n) {j:Nat} (hj:j < lo∨hi≤j):w'.cell? ⟨b,j,none⟩=w.cell? ⟨b,j,none⟩:=by
  obtain ⟨cs,T,q1,q2⟩:=hr
  obtain ⟨cs',r1,r2,r3⟩:=h.row cs T q1
  rw [cell_of_row _ _ _ _ _ _ q1,cell_of_row _ _ _ _ _ _ r1]
  exact r3 j hj
structure Opn (X:RX) (O:Nat→Prop) (b:Nat) (w:World):Prop where
  orb:O X.rb
  ob:O b
  lt:∀ k,O k→k < w.heap.size
  src:∀ sb,X.S=some sb→¬ O sb
  ne:b ≠ X.rb
  hB:X.B≤b
theorem Opn.mono {X:RX} {O:Nat→Prop} {b:Nat} {w w':World} (h:Opn X O b w) (hs:w.heap.size≤w'.heap.size):Opn X O b w' :=
  ⟨h.orb,h.ob,fun k hk=>Nat.lt_of_lt_of_le (h.lt k hk) hs,h.src,h.ne,h.hB⟩
section
variable {X:RX} {a a':Act} {w w':World} {st:Option Bytes} {Q:Exit→Act→World→Prop}
theorem RInv.act (h:RInv X a w st) (hs:a'.tmps.size=a.tmps.size) (hd:a'.defers=a.defers) (hk:∀ s,s < 10→getT a' s=getT a s):RInv X a' w st :=
  ⟨hs.trans h.size,hd.trans h.defers,(hk 2 (by omega)).trans h.uns,(hk 7 (by omega)).trans h.rd,(hk 8 (by omega)).trans h.ver,fun hn=>(hk 9 (by omega)).trans (h.flex hn),h.at_,h.src,h.below,h.heap⟩
theorem RInv.alloc (h:RInv X a w st) (o:Obj):RInv X a (w.alloc o) st:=by
  have hlt:=h.at_.lt
  exact ⟨h.size,h.defers,h.uns,h.rd,h.ver,h.flex,
    h.at_.frame (Below.heap_alloc _ _ _ hlt) (fun sb hsb=>Below.heap_alloc _ _ _ (h.src sb hsb).2),
    fun sb hsb=>⟨(h.src sb hsb).1,by simp;have:=(h.src sb hsb).2;omega⟩,h.below.alloc h.heap o,by simp;have:=h.heap;omega⟩
theorem RInv.drew (h:RInv X a w st):RInv X a w.drew st:=by
  refine ⟨h.size,h.defers,h.uns,h.rd,h.ver,h.flex,h.at_.frame rfl (fun _ _=>rfl),h.src,h.below.drew,h.heap⟩
theorem RInv.setRow (h:RInv X a w st) {b:Nat} (hn:b ≠ X.rb) (hS:X.S ≠ some b) (hB:X.B≤b) (cs:Array Value):RInv X a (w.setRow b cs) st :=
  ⟨h.size,h.defers,h.uns,h.rd,h.ver,h.flex,
    h.at_.frame (setRow_other _ _ _ _ (Ne.symm hn)) (fun sb hsb=>setRow_other _ _ _ _ (fun e=>hS (by rw [hsb,e]))),
    fun sb hsb=>⟨(h.src sb hsb).1,by simpa using (h.src sb hsb).2⟩,h.below.trans ⟨rfl,rfl,rfl,by simp,fun k hk=>setRow_other _ _ _ _ (by omega)⟩,by simpa using h.heap⟩
end
end Go.Proofs.YtoiipagmhmohdaaDoor.K
namespace Go.Proofs.YtoiipagmhmohdaaDoor.K
open Go Go.RowKit Go.Proofs.YtoiipagmhmohdaaDoor.T
set_option linter.unusedVariables false
set_option linter.unusedSimpArgs false
section
variable {X:RX} {a a':Act} {w w':World} {st:Option Bytes} {Q:Exit→Act→World→Prop}
theorem RInv.only {st':Option Bytes} (hX:X.ok) (h:RInv X a w st) (ho:Only X.rb w w') (hr:RdAt X.TR w' X.S X.rb st'):RInv X a w' st' :=
  ⟨h.size,h.defers,h.uns,h.rd,h.ver,h.flex,hr,fun sb hsb=>⟨(h.src sb hsb).1,Nat.lt_of_lt_of_le (h.src sb hsb).2 ho.size⟩,h.below.trans (ho.below hX.hB h.heap),Nat.le_trans h.heap ho.size⟩
def okRP (I:RIds) (c:Ctx) (nul:Bool) (k:PK):Bool :=
  match k with
  | .str=>if nul then (c.never || I.rCNStr != 0) && I.rNStr != 0 else (c.never || I.rCStr != 0) && I.rStr != 0
  | .bytes=>if nul then c.never && I.rNBytes != 0 else (c.never || I.rCBytes != 0) && I.rBytes != 0
  | .uuid=>!nul && I.rUuid != 0
  | k=>!nul && rNum I k != 0
end
end Go.Proofs.YtoiipagmhmohdaaDoor.K
