/- Generic texts: R4 R18 R19 R21 R22 R23 R5. No condition. -/
import Derived.Test.YtdnpafdgglpagaaGreatDoorN7
import Derived.Lib.AppendZeros
import Derived.Laws.BytesArg
namespace Go.Proofs.YtdnpafdgglpagaaGreatDoor.K
open Go Go.RowKit Go.Proofs.YtdnpafdgglpagaaGreatDoor.T
set_option linter.unusedVariables false
set_option linter.unusedSimpArgs false
structure RX where
 P:Program
 I:RIds
 TR:Nat
 S:Option Nat
 rb:Nat
 G:List (Nat × Bytes)->Prop
 c:Ctx
 w0:World
 B:Nat
 ver:Int
 flex:Bool
 T0:Nat
 N:Nat
 err:Value
 Gl:World->Prop
 gb:Nat
 v0:Nat
structure RX.ok (X:RX):Prop where
 kr:KR X.P X.I X.TR X.gb X.err X.Gl
 hgb:X.gb < X.B
 cver:X.c.ver=8
 ten:9 < X.T0/\10<=X.v0/\X.v0<=X.T0/\X.c.rd < X.v0
 never:X.c.never=true->X.flex=false
 hB:X.B<=X.rb
 hver:0<=X.ver
 G:∀ u,X.G u
 gl:∀ w,Below X.B X.w0 w->X.Gl w
 tr:X.TR=X.I.tRd
 er:∃ t y,X.err=.iface t y
 mix:X.P.follows .mixedOrders=true
structure RInv (X:RX) (a:Act) (w:World) (st:Option Bytes):Prop where
 size:a.tmps.size=X.N
 defers:a.defers=[]
 uns:getT a 2=.bool false
 rd:getT a X.c.rd=.pointer (some ⟨X.rb,0,none⟩)
 ver:getT a 8=.int .i16 X.ver
 flex:X.c.never=false->getT a 9=.bool X.flex
 at_:RdAt X.TR w X.S X.rb st
 src:∀ sb,X.S=some sb->sb ≠ X.rb/\sb < w.heap.size
 below:Below X.B X.w0 w
 heap:X.B<=w.heap.size
 lo:10<=X.v0/\X.c.rd < X.v0
theorem RdAt.lt {TR rb:Nat} {w:World} {S:Option Nat} {st:Option Bytes} (h:RdAt TR w S rb st):rb < w.heap.size:=by
 cases st with
 | none=>exact (Array.getElem?_eq_some_iff.1 h).1
 | some rest =>
  obtain ⟨base,cap,h1,_⟩:=h
  exact (Array.getElem?_eq_some_iff.1 h1).1
theorem RdAt.frame {TR rb:Nat} {w w':World} {S:Option Nat} {st:Option Bytes} (h:RdAt TR w S rb st) (h1:w'.heap[rb]?=w.heap[rb]?) (h2:∀ sb,S=some sb->w'.heap[sb]?=w.heap[sb]?):RdAt TR w' S rb st:=by
 cases st with
 | none =>
  simp only [RdAt] at h ⊢
  rw [h1]
  exact h
 | some rest =>
  simp only [RdAt] at h ⊢
  obtain ⟨base,cap,q1,q2,q3⟩:=h
  refine ⟨base,cap,by rw [h1];exact q1,q2,?_⟩
  cases S with
  | none=>exact q3
  | some sb =>
   obtain ⟨o,k1,k2⟩:=q3
   exact ⟨o,k1,fun j u hu=>by rw [World.cell?_of_block (h2 sb rfl)];exact k2 j u hu⟩
def RSame (X:RX) (a a':Act) (lo t:Nat):Prop:=∀ s,(s < lo∨(X.T0<=s/\s < t))->getT a' s=getT a s
theorem RSame.refl (X:RX) (a:Act) (lo t:Nat):RSame X a a lo t:=fun _ _=>rfl
theorem RSame.trans {X:RX} {a b c:Act} {lo t lo' t':Nat} (h:RSame X a b lo t) (h':RSame X b c lo' t') (hl:lo<=lo') (ht:t<=t'):RSame X a c lo t :=
 fun s h1=>(h' s (by omega)).trans (h s h1)
theorem RSame.mono {X:RX} {a b:Act} {lo t lo' t':Nat} (h:RSame X a b lo' t') (hl:lo<=lo') (ht:t<=t'):RSame X a b lo t :=
 fun s h1=>h s (by omega)
structure Foot (rb b lo hi:Nat) (w w':World):Prop where
 size:w.heap.size<=w'.heap.size
 block:∀ k,k < w.heap.size->k ≠ rb->k ≠ b->w'.heap[k]?=w.heap[k]?
 row:∀ cs T,w.heap[b]?=some (.cells cs T (0,0))->∃ cs',w'.heap[b]?=some (.cells cs' T (0,0))/\cs'.size=cs.size/\∀ j,(j < lo∨hi<=j)->cs'[j]?=cs[j]?
theorem Foot.refl (rb b lo hi:Nat) (w:World):Foot rb b lo hi w w:=⟨Nat.le_refl _,fun _ _ _ _=>rfl,fun cs T h=>⟨cs,h,rfl,fun _ _=>rfl⟩⟩
theorem Foot.mono {rb b lo hi lo' hi':Nat} {w w':World} (h:Foot rb b lo hi w w') (h1:lo'<=lo) (h2:hi<=hi'):Foot rb b lo' hi' w w' :=
 ⟨h.size,h.block,fun cs T hc=>by
  obtain ⟨cs',q1,q2,q3⟩:=h.row cs T hc
  exact ⟨cs',q1,q2,fun j hj=>q3 j (by omega)⟩⟩
theorem Foot.trans {rb b lo hi:Nat} {w w1 w2:World} (h:Foot rb b lo hi w w1) (h':Foot rb b lo hi w1 w2):Foot rb b lo hi w w2 :=
 ⟨Nat.le_trans h.size h'.size,fun k k1 k2 k3=>(h'.block k (Nat.lt_of_lt_of_le k1 h.size) k2 k3).trans (h.block k k1 k2 k3),fun cs T hc=>by
  obtain ⟨cs',q1,q2,q3⟩:=h.row cs T hc
  obtain ⟨cs2,r1,r2,r3⟩:=h'.row cs' T q1
  exact ⟨cs2,r1,r2.trans q2,fun j hj=>(r3 j hj).trans (q3 j hj)⟩⟩
theorem Foot.of_only {rb b lo hi:Nat} {w w':World} (h:Only rb w w') (hn:b ≠ rb):Foot rb b lo hi w w' :=
 ⟨h.size,fun k k1 k2 _=>h.block k k1 k2,fun cs T hc=>⟨cs,by rw [h.block b (Array.getElem?_eq_some_iff.1 hc).1 hn];exact hc,rfl,fun _ _=>rfl⟩⟩
theorem Foot.other {rb b lo hi b' lo' hi':Nat} {w w1 w2:World} (h:Foot rb b lo hi w w1) (h':Foot rb b' lo' hi' w1 w2) (hb':w.heap.size<=b') (hb:b < w.heap.size) (hn:b ≠ rb):Foot rb b lo hi w w2 :=
 ⟨Nat.le_trans h.size h'.size,fun k k1 k2 k3=>(h'.block k (Nat.lt_of_lt_of_le k1 h.size) k2 (by omega)).trans (h.block k k1 k2 k3),fun cs T hc=>by
  obtain ⟨cs',q1,q2,q3⟩:=h.row cs T hc
  exact ⟨cs',by rw [h'.block b (Nat.lt_of_lt_of_le hb h.size) hn (by omega)];exact q1,q2,q3⟩⟩
def RowAt (w:World) (b q n:Nat):Prop:=∃ cs T,w.heap[b]?=some (.cells cs T (0,0))/\q+n<=cs.size
theorem RowAt.mono {w:World} {b q n q' n':Nat} (h:RowAt w b q n) (h1:q'+n'<=q+n):RowAt w b q' n':=by
 obtain ⟨cs,T,q1,q2⟩:=h
 exact ⟨cs,T,q1,by omega⟩
theorem RowAt.lt {w:World} {b q n:Nat} (h:RowAt w b q n):b < w.heap.size:=by
 obtain ⟨cs,T,q1,q2⟩:=h
 exact (Array.getElem?_eq_some_iff.1 q1).1
theorem Foot.rowAt {rb b lo hi q n:Nat} {w w':World} (h:Foot rb b lo hi w w') (hr:RowAt w b q n):RowAt w' b q n:=by
 obtain ⟨cs,T,q1,q2⟩:=hr
 obtain ⟨cs',r1,r2,_⟩:=h.row cs T q1
 exact ⟨cs',T,r1,by omega⟩
theorem Foot.cell {rb b lo hi q n:Nat} {w w':World} (h:Foot rb b lo hi w w') (hr:RowAt w b q n) {j:Nat} (hj:j < lo∨hi<=j):w'.cell? ⟨b,j,none⟩=w.cell? ⟨b,j,none⟩:=by
 obtain ⟨cs,T,q1,q2⟩:=hr
 obtain ⟨cs',r1,r2,r3⟩:=h.row cs T q1
 rw [cell_of_row _ _ _ _ _ _ q1,cell_of_row _ _ _ _ _ _ r1]
 exact r3 j hj
structure Opn (X:RX) (O:Nat->Prop) (b:Nat) (w:World):Prop where
 orb:O X.rb
 ob:O b
 lt:∀ k,O k->k < w.heap.size
 src:∀ sb,X.S=some sb->¬ O sb
 ne:b ≠ X.rb
 hB:X.B<=b
theorem Opn.mono {X:RX} {O:Nat->Prop} {b:Nat} {w w':World} (h:Opn X O b w) (hs:w.heap.size<=w'.heap.size):Opn X O b w' :=
 ⟨h.orb,h.ob,fun k hk=>Nat.lt_of_lt_of_le (h.lt k hk) hs,h.src,h.ne,h.hB⟩
def FO (O:Nat->Prop) (w:World):Nat->Prop:=fun k=>k < w.heap.size/\¬ O k
theorem Foot.fo {X:RX} {O:Nat->Prop} {b lo hi:Nat} {w w':World} (h:Foot X.rb b lo hi w w') (ho:Opn X O b w):∀ k,FO O w k->FO O w' k/\w'.heap[k]?=w.heap[k]? :=
 fun k ⟨h1,h2⟩=>⟨⟨Nat.lt_of_lt_of_le h1 h.size,h2⟩,h.block k h1 (fun e=>h2 (e ▸ ho.orb)) (fun e=>h2 (e ▸ ho.ob))⟩
theorem newF_fo {X:RX} {O:Nat->Prop} {b:Nat} {w w':World} (ho:Opn X O b w) (hs:w.heap.size<=w'.heap.size) (hsrc:∀ sb,X.S=some sb->sb < w.heap.size):∀ k,NewF X.S w w' k->FO O w' k:=by
 rintro k (h | ⟨h1,h2⟩)
 ·exact ⟨Nat.lt_of_lt_of_le (hsrc k h) hs,ho.src k h⟩
 ·exact ⟨h2,fun hk=>by have:=ho.lt k hk;omega⟩
section
variable {X:RX} {a a':Act} {w w':World} {st:Option Bytes} {Q:Exit->Act->World->Prop}
theorem RInv.act (h:RInv X a w st) (hs:a'.tmps.size=a.tmps.size) (hd:a'.defers=a.defers) (hk:∀ s,s < X.v0->getT a' s=getT a s):RInv X a' w st :=
 ⟨hs.trans h.size,hd.trans h.defers,(hk 2 (by have:=h.lo;omega)).trans h.uns,(hk X.c.rd h.lo.2).trans h.rd,(hk 8 (by have:=h.lo;omega)).trans h.ver,fun hn=>(hk 9 (by have:=h.lo;omega)).trans (h.flex hn),h.at_,h.src,h.below,h.heap,h.lo⟩
theorem RInv.alloc (h:RInv X a w st) (o:Obj):RInv X a (w.alloc o) st:=by
 have hlt:=h.at_.lt
 exact ⟨h.size,h.defers,h.uns,h.rd,h.ver,h.flex,
  h.at_.frame (Below.heap_alloc _ _ _ hlt) (fun sb hsb=>Below.heap_alloc _ _ _ (h.src sb hsb).2),
  fun sb hsb=>⟨(h.src sb hsb).1,by simp;have:=(h.src sb hsb).2;omega⟩,h.below.alloc h.heap o,by simp;have:=h.heap;omega,h.lo⟩
theorem RInv.drew (h:RInv X a w st):RInv X a w.drew st:=by
 refine ⟨h.size,h.defers,h.uns,h.rd,h.ver,h.flex,h.at_.frame rfl (fun _ _=>rfl),h.src,h.below.drew,h.heap,h.lo⟩
theorem RInv.setRow (h:RInv X a w st) {b:Nat} (hn:b ≠ X.rb) (hS:X.S ≠ some b) (hB:X.B<=b) (cs:Array Value):RInv X a (w.setRow b cs) st :=
 ⟨h.size,h.defers,h.uns,h.rd,h.ver,h.flex,
  h.at_.frame (setRow_other _ _ _ _ (Ne.symm hn)) (fun sb hsb=>setRow_other _ _ _ _ (fun e=>hS (by rw [hsb,e]))),
  fun sb hsb=>⟨(h.src sb hsb).1,by simpa using (h.src sb hsb).2⟩,h.below.trans ⟨rfl,rfl,rfl,by simp,fun k hk=>setRow_other _ _ _ _ (by omega)⟩,by simpa using h.heap,h.lo⟩
theorem foot_setRow {rb b q n:Nat} {cs cs':Array Value} {T:TypeId} (hc:w.heap[b]?=some (.cells cs T (0,0))) (hs:cs'.size=cs.size) (hj:∀ j,(j < q∨q+n<=j)->cs'[j]?=cs[j]?):Foot rb b q (q+n) w (w.setRow b cs') :=
 ⟨by simp,fun k _ _ hb=>setRow_other _ _ _ _ hb,fun c2 T2 h2=>by
  rw [hc] at h2
  simp only [Option.some.injEq,Obj.cells.injEq,and_true] at h2
  obtain ⟨rfl,rfl⟩:=h2
  exact ⟨cs',setRow_heap _ _ _ _ _ _ hc,hs,hj⟩⟩
theorem foot_alloc {rb b lo hi:Nat} (o:Obj):Foot rb b lo hi w (w.alloc o) :=
 ⟨by simp,fun k hk _ _=>Below.heap_alloc _ _ _ hk,fun cs T hc=>⟨cs,by rw [Below.heap_alloc _ _ _ (Array.getElem?_eq_some_iff.1 hc).1];exact hc,rfl,fun _ _=>rfl⟩⟩
theorem foot_drew {rb b lo hi:Nat}:Foot rb b lo hi w w.drew:=⟨Nat.le_refl _,fun _ _ _ _=>rfl,fun cs T hc=>⟨cs,hc,rfl,fun _ _=>rfl⟩⟩
theorem opw_slice00 {T E n:Nat} {d:Option Tmp} {g:Option (Nat × Bool)} {K:Act->World->Prop} (hT:sliceB X.P T E n=true) (hz:∃ i z,X.P.info? E=some i/\i.zero=some z) (h:K (a.put d (.slice (some ⟨w.heap.size,0,none⟩) 0 0)) (w.alloc (.cells #[] E))) :
  opw X.P ⟨d,.buildSlice T 0 #[],g⟩ a w K:=by
 obtain ⟨hu,i,hi,hs⟩:=slice_of hT
 obtain ⟨i',z,hi',hz⟩:=hz
 rw [hi] at hi'
 cases hi'
 refine oVa (w':=w.alloc (.cells #[] E)) (by simp) (fun p hp=>?_) h
 have hr1:Array.range 0=#[]:=by decide
 simp [execOp,hp,Instr.buildSlice,run_underlying hu,sizeOf,typeInfo,zeroValue,hi,hz,newRow,hr1,Instr.fill]
theorem opw_makeN {T E n TN:Nat} {x y:Operand} {d:Option Tmp} {g:Option (Nat × Bool)} {K:Act->World->Prop} {i:TypeInfo} {z:Value} {m:Nat} (hT:sliceB X.P T E n=true) (hN:intK X.P TN=some .i32) (hi:X.P.info? E=some i) (hz:i.zero=some z) (h0:0 < i.size) (hb:i.bytes<=131072)
  (hx:a.eval x=.slice none 0 0) (hy:a.eval y=.int .i32 (m:Int)) (hm:0 < m) (hm2:m < 2147483648)
  (h:∀ cap,m<=cap->K (a.put d (.slice (some ⟨w.heap.size,0,none⟩) m cap)) (w.drew.alloc (.cells (Builtin.zeroCells z.cells m ++ Builtin.zeroCells z.cells (cap - m)) E))) :
  opw X.P ⟨d,.call ⟨.builtin .append,#[x,y],#[T,TN]⟩,g⟩ a w K:=by
 obtain ⟨hu,_⟩:=slice_of hT
 have hu2:=intB_of hN
 unfold intB at hu2
 split at hu2 <;> try (simp at hu2;done)
 rename_i k hk
 have h48:m * i.bytes<=281474976710656:=by
  have:m * i.bytes<=2147483648 * 131072:=Nat.mul_le_mul (by omega) hb
  omega
 refine oVa (v:=.slice (some ⟨w.heap.size,0,none⟩) m (grownCap w m 0 E)) (w':=w.drew.alloc (.cells (Builtin.zeroCells z.cells m ++ Builtin.zeroCells z.cells (grownCap w m 0 E - m)) E)) (by simp) (fun p hp=>?_) (h _ (grownCap_ge w m 0 E))
 have hr:=Lib.run_append_nil_zeros (P:=X.P) w T TN p.type E i z .i32 k hu hk hi hz m hm h0 (by omega) h48
 simp [execOp,hp,hx,hy,resolve,invoke,builtin,hr]
theorem opw_store_aggAt {T b o:Nat} {E:TypeId} {x y:Operand} {cur:Array Value} {cs:List Value} {d:Option Tmp} {g:Option (Nat × Bool)} {K:Act->World->Prop} (hT:aggB X.P T cs.length=true) (hx:a.eval x=.pointer (some ⟨b,o,none⟩)) (hy:a.eval y=.agg cs.toArray)
  (hb:w.heap[b]?=some (.cells cur E (0,0))) (hc:o+cs.length<=cur.size) (h1:∀ v ∈ cs,v.oneCell'=true) (h:K (a.put d undef) (w.setRow b (cur.toList.take o ++ cs ++ cur.toList.drop (o+cs.length)).toArray)) :
  opw X.P ⟨d,.store T x y,g⟩ a w K:=by
 obtain ⟨i,hi,hs,_⟩:=agg_of (w:=w) hT
 refine opw_skip (w':=w.setRow b (cur.toList.take o ++ cs ++ cur.toList.drop (o+cs.length)).toArray) (by simp) (fun p hp=>?_) h
 have hst:=run_storeCells_at X.P b o E cs 0 cur w hb (by omega) h1
 simp only [Nat.add_zero] at hst
 simp only [execOp,hp,hx,hy,Instr.storeAt,Instr.sureAddr,storeVar,sizeOf,typeInfo,hi,hs,Value.cells]
 simp [hst,hi,hs]
end
end Go.Proofs.YtdnpafdgglpagaaGreatDoor.K
namespace Go.Proofs.YtdnpafdgglpagaaGreatDoor.K
open Go Go.RowKit Go.Proofs.YtdnpafdgglpagaaGreatDoor.T
attribute [local simp] eTm eCo pNo gTp gTn qv qcall vop iop
set_option linter.unusedSimpArgs false
set_option linter.unusedVariables false
set_option maxHeartbeats 2000000
def bstrB (P:Program) (TB TS:Nat):Bool :=
 (match P.underlying TB with
 | some (.slice e)=>(match P.underlying e with | some (.int .u8)=>true | _=>false)
 | _=>false) && (match P.underlying TS with | some .string=>true | _=>false)
def zeroOne (P:Program) (T:Nat):Bool:=oneB P T && (match P.info? T with
 | some i=>(match i.zero with | some z=>z.cells.size == 1 | _=>false)
 | _=>false)
theorem zeroOne_of {P:Program} {T:Nat} (h:zeroOne P T=true):oneB P T=true/\∃ i z,P.info? T=some i/\i.zero=some z/\z.cells.size=1:=by
 simp only [zeroOne,Bool.and_eq_true] at h
 obtain ⟨h1,h⟩:=h
 split at h <;> try (simp at h;done)
 rename_i i hi
 split at h <;> try (simp at h;done)
 rename_i z hz
 exact ⟨h1,i,z,hi,hz,by simpa using h⟩
section
variable {P:Program} {a:Act} {w:World} {K:Act->World->Prop} {d:Option Tmp} {g:Option (Nat × Bool)}
theorem opw_str {T0 T1 cap:Nat} {x:Operand} {base:Option Addr} {S:Option Nat} {bs:Bytes} (hT:bstrB P T0 T1=true) (hx:a.eval x=.slice base bs.length cap) (hs:SrcAt w S base bs) (h:K (a.put d (.string ⟨bs.toArray⟩)) w):opw P ⟨d,.convert T0 T1 x,g⟩ a w K:=by
 simp only [bstrB,Bool.and_eq_true] at hT
 obtain ⟨h1,h2⟩:=hT
 split at h1 <;> try (simp at h1;done)
 rename_i e he
 split at h1 <;> try (simp at h1;done)
 rename_i he2
 split at h2 <;> try (simp at h2;done)
 rename_i h3
 refine oVa (v:=.string ⟨bs.toArray⟩) (by simp) (fun p hp=>?_) h
 have hr:(convert T0 T1 (.slice base bs.length cap)).run P w=.ok (.string ⟨bs.toArray⟩) w:=by
  cases S with
  | none =>
   obtain ⟨rfl,rfl⟩:=hs
   exact run_convert_bytes_nil w T0 e he he2 _ _ T1 h3
  | some sb =>
   obtain ⟨q,rfl,hc⟩:=hs
   have:=run_convert_bytes_arg (P:=P) w T0 e he he2 sb q bs.length cap (bs.map fun u=>(u.toNat:Int)) (by simp) (fun i hi=>by
    rw [hc i bs[i] (List.getElem?_eq_getElem hi)]
    simp [cell,hi]) T1 h3
   rw [this]
   have hfun:((fun n:Int=>UInt8.ofNat n.toNat) ∘ fun u:UInt8=>(u.toNat:Int))=id:=by funext u;simp
   simp only [strOfNums,List.map_map,hfun,List.map_id]
 simp [execOp,hp,hx,hr]
end
theorem after_prim {α β γ:Type} {st:Option Bytes} {pC:Rd α} {g:α->Rd β} {q:Rd γ} (h:∀ b x r,st=some b->pC b=some (x,r)->after (some r) (g x)=after (some r) q):after st (rThen pC g)=after (after st pC) q:=by
 cases st with
 | none=>rfl
 | some b =>
  cases hp:pC b with
  | none=>rw [after_then_none (after_no hp),after_no hp];rfl
  | some z=>rw [after_then _ _ _ rfl hp,after_ok hp];exact h b z.1 z.2 rfl hp
theorem after_map {α β:Type} {st:Option Bytes} {p:Rd α} {g:α->β}:after st (rThen p fun x=>rOk (g x))=after st p:=by
 rw [after_prim (q:=rOk ()) (fun b x r _ _=>by rw [after_rOk,after_rOk]),after_rOk]
theorem after_cnt_uv {st:Option Bytes} {sz:Nat}:after st (pCount true sz)=after st pUv:=by
 simp only [pCount,if_true]
 exact after_map
theorem wrap64 {n:Int} (h1:-9223372036854775808<=n) (h2:n < 9223372036854775808):IntKind.i64.wrap n=n:=by
 simp only [IntKind.wrap,IntKind.bits,IntKind.signed]
 simp
 split <;> omega
theorem pInt_rng {k:Nat} (hk:k=2∨k=4) {b r:Bytes} {x:Int} (h:pInt k b=some (x,r)):-2147483648<=x/\x < 2147483648:=by
 obtain ⟨n,r1,h1,h2⟩:=rThen_some h
 obtain ⟨rfl,-⟩:=rOk_some h2
 have h3:=(pFix_facts h1)
 have h4:=unfix_lt (b.take k)
 rw [<- h3.2.1,List.length_take,Nat.min_eq_left (by omega)] at h4
 rcases hk with rfl | rfl
 ·simp only [sgn]
  have h4':n < 65536:=h4
  simp
  split <;> omega
 ·simp only [sgn]
  have h4':n < 4294967296:=h4
  simp
  split <;> omega
theorem cnt_int {k:Nat} (hk:k=2∨k=4) {n:Int} {ks:IntKind} {st:Option Bytes} (q:∀ b x r,st=some b->pInt k b=some (x,r)->Value.int ks n=.int ks x):∀ b x r,st=some b->pCount false k b=some (x,r)->IntKind.i64.wrap n=x/\n=x:=by
 intro b x r hb hp
 have hp':pInt k b=some (x,r):=hp
 have hv:=q b x r hb hp'
 simp only [Value.int.injEq,true_and] at hv
 subst hv
 have:=pInt_rng hk hp'
 exact ⟨wrap64 (by omega) (by omega),rfl⟩
theorem cnt_uv {sz:Nat} {n:Int} {st:Option Bytes} (q:∀ b x r,st=some b->pUv b=some (x,r)->Value.int .u32 n=.int .u32 (x:Int)):∀ b x r,st=some b->pCount true sz b=some (x,r)->IntKind.i64.wrap (IntKind.i64.wrap n - 1)=x:=by
 intro b x r hb hp
 simp only [pCount,if_true] at hp
 obtain ⟨y,r1,h1,h2⟩:=rThen_some hp
 obtain ⟨rfl,-⟩:=rOk_some h2
 have hv:=q b y r1 hb h1
 simp only [Value.int.injEq,true_and] at hv
 subst hv
 have:=(pUv_facts h1).1
 rw [wrap64 (n:=(y:Int)) (by omega) (by omega),wrap64 (by omega) (by omega)]
theorem bytesAt_src {w:World} {F:Nat->Prop} {S:Option Nat} {base:Option Addr} {bs:Bytes} (h:SrcAt w S base bs) (hF:∀ sb,S=some sb->F sb):BytesAt w F base bs:=by
 cases S with
 | none=>exact .inl h.2
 | some sb =>
  obtain ⟨q,h1,h2⟩:=h
  exact .inr ⟨sb,q,h1,hF sb rfl,h2⟩
section
variable {P:Program} {R:RTy} {f:FuncId} {fn:Func}
def sc_RStr (T0 T1 T2 T3 F0 F1:Nat):SC:=.seq (.reg [⟨some 2,.assign (.const (.string ⟨#[]⟩)),none⟩]) (.seq (.reg [mv 4 0,cal 5 F0 [4],asg 3 5]) (.seq (.reg [mv 6 0,mv 7 3,⟨some 8,.convert T0 T1 (.tmp 7),none⟩,cal 9 F1 [6,8],⟨some 10,.convert T2 T3 (.tmp 9),none⟩,asg 2 10]) (.ret)))
def sc_RCStr (T0 T1 T2 T3 F0 F1:Nat):SC:=.seq (.reg [⟨some 2,.assign (.const (.string ⟨#[]⟩)),none⟩]) (.seq (.reg [mv 4 0,cal 5 F0 [4],⟨some 6,.convert T0 T1 (.tmp 5),none⟩,⟨some 7,.binOp .sub T1 (.tmp 6) (.const (.int .i64 1)) T1,none⟩,asg 3 7]) (.seq (.reg [mv 8 0,mv 9 3,cal 10 F1 [8,9],⟨some 11,.convert T2 T3 (.tmp 10),none⟩,asg 2 11]) (.ret)))
def sc_RNStr (T0 T1 T2 T3 F0 F1:Nat):SC:=.seq (.reg [⟨some 2,.assign (.const (.pointer none)),none⟩]) (.seq (.reg [mv 5 0,cal 6 F0 [5],asg 3 6]) (.seq (.seq (.reg [mv 7 3,⟨some 8,.binOp .lss T0 (.tmp 7) (.const (.int .i16 0)) T0,none⟩]) (.cond (.tmp 8) (.seq (.reg [⟨some 2,.assign (.const (.pointer none)),none⟩]) (.ret)) (.skip))) (.seq (.reg [mv 9 0,mv 10 3,⟨some 11,.convert T0 T1 (.tmp 10),none⟩,cal 12 F1 [9,11],⟨some 13,.convert T2 T3 (.tmp 12),none⟩,⟨some 4,.alloc T3,none⟩,⟨none,.store T3 (.tmp 4) (.tmp 13),none⟩]) (.seq (.reg [asg 2 4]) (.ret)))))
def sc_RCNStr (T0 T1 T2 T3 F0 F1:Nat):SC:=.seq (.reg [⟨some 2,.assign (.const (.pointer none)),none⟩]) (.seq (.reg [mv 5 0,cal 6 F0 [5],⟨some 7,.convert T0 T1 (.tmp 6),none⟩,⟨some 8,.binOp .sub T1 (.tmp 7) (.const (.int .i64 1)) T1,none⟩,asg 3 8]) (.seq (.seq (.reg [mv 9 3,⟨some 10,.binOp .lss T1 (.tmp 9) (.const (.int .i64 0)) T1,none⟩]) (.cond (.tmp 10) (.seq (.reg [⟨some 2,.assign (.const (.pointer none)),none⟩]) (.ret)) (.skip))) (.seq (.reg [mv 11 0,mv 12 3,cal 13 F1 [11,12],⟨some 14,.convert T2 T3 (.tmp 13),none⟩,⟨some 4,.alloc T3,none⟩,⟨none,.store T3 (.tmp 4) (.tmp 14),none⟩]) (.seq (.reg [asg 2 4]) (.ret)))))
theorem rStr_ok {TR gb F0 F1 T0 T1 T2 T3 : Nat} (hTR : R.TR = TR) (hR : rdOK P R = true) (h0k : intK P T0 = some .i16) (h1k : intK P T1 = some .i64) (hS : bstrB P T2 T3 = true) (hF : RC P TR gb F0 (pInt 2) (fun v => ∃ n, v = .int .i16 n) (fun _ _ n v => v = .int .i16 n)) (hG : SpC P TR F1) (hf : P.funcs[f]? = some fn) (hb : fn.body.map strip = some (sc_RStr T0 T1 T2 T3 F0 F1)) (hnm : (fn.name == "runtime.NumGoroutine") = false) (hn : fn.ntmps = 11) (hr : fn.results = #[.tmp 2]) :
  RC P TR gb f (pPrim false false .str) (tyP false .str) (okP false .str):=by
 subst hTR
 have hst:=rd_facts hR
 refine ⟨fnOK_of hf hb hnm,fun w S rb st hgb hrd hsrc=>?_⟩
 refine fCa hf hb hn (by simp) fun a0 hs hd ha=>?_
 have h0:=ha 0 _ rfl
 simp only [List.getElem_toArray,List.getElem_cons_zero,List.getElem_cons_succ] at h0
 refine wSq (wRg ?_)
 repeat (apply ops_1;(focus (simp (disch:=(try simp only [sPu]);omega) ;try rfl)))
 refine oNi (wSq (wRg ?_))
 iterate 1 (apply ops_1;(focus (simp (disch:=(try simp only [sPu]);omega) [h0];try rfl)))
 refine ops_call hF.1 (hF.2 w S rb st hgb hrd hsrc) (by simp (disch:=(try simp only [sPu]);omega) [h0]) ?_
 rintro e w1 ⟨v,rfl,q1,q2,⟨n,rfl⟩,q4⟩
 refine ⟨_,rfl,?_⟩
 repeat (apply ops_1;(focus (simp (disch:=(try simp only [sPu]);omega) [h0k,h1k];try rfl)))
 refine oNi ?_
 simp only [Exit.then]
 have hsrc1:∀ sb,S=some sb->sb ≠ rb/\sb < w1.heap.size:=fun sb h=>⟨(hsrc sb h).1,Nat.lt_of_lt_of_le (hsrc sb h).2 q2.size⟩
 have q1:RdAt R.TR w1 S rb (after st (pCount false 2)):=q1
 have hcnt2:=cnt_int (k:=2) (by omega) q4
 have hcnt:=fun b x r hb hp=>(hcnt2 b x r hb hp).1
 have haft:after st (pPrim false false .str)=after (after st (pCount false 2)) (pSpan (IntKind.i64.wrap n)):=by
  simp only [pPrim]
  refine after_prim fun b x r hb hp=>?_
  simp only [Bool.false_and,Bool.false_eq_true,if_false]
  rw [hcnt b x r hb hp]
  exact after_map
 refine wSq (wRg ?_)
 iterate 3 (apply ops_1;(focus (simp (disch:=(try simp only [sPu]);omega) [h0,h0k,h1k];try rfl)))
 refine ops_call hG.1 (hG.2 w1 S rb _ (IntKind.i64.wrap n) q1 hsrc1) (by simp (disch:=(try simp only [sPu]);omega) [h0]) ?_
 rintro e w2 ⟨S',base,cap,x,rfl,z1,z2,z3,z4,-⟩
 refine ⟨_,rfl,?_⟩
 refine oNo rfl (opw_str (cap:=cap) (base:=base) hS (by simp (disch:=(try simp only [sPu]);omega)) z3 ?_)
 repeat (apply ops_1;(focus (simp (disch:=(try simp only [sPu]);omega) ;try rfl)))
 refine oNi (wRt ?_)
 refine ret_tmp hr (by simp [dPu,hd]) ⟨_,rfl,by rw [haft];exact z1,q2.trans z2,?_,fun b t r hb hp=>?_⟩
 ·simp only [tyP,Bool.false_eq_true,if_false]
  exact ⟨_,by simp (disch:=(try simp only [sPu]);omega);rfl⟩
 ·simp only [pPrim] at hp
  obtain ⟨l,r1,k1,k2⟩:=rThen_some hp
  simp only [Bool.false_and,Bool.false_eq_true,if_false] at k2
  obtain ⟨s,r2,k3,k4⟩:=rThen_some k2
  obtain ⟨rfl,rfl⟩:=rOk_some k4
  subst hb
  have hx:=z4 r1 s _ (after_ok k1) (by rw [hcnt _ _ _ rfl k1];exact k3)
  intro hm
  refine ⟨⟨x.toArray⟩,by simp (disch:=(try simp only [sPu]);omega),?_,hm⟩
  simp [tS,Tree.s,hx.1]
theorem rCStr_ok {TR gb F0 F1 T0 T1 T2 T3 : Nat} (hTR : R.TR = TR) (hR : rdOK P R = true) (h0k : intK P T0 = some .u32) (h1k : intK P T1 = some .i64) (hS : bstrB P T2 T3 = true) (hF : RC P TR gb F0 pUv (fun v => ∃ n, v = .int .u32 n) (fun _ _ n v => v = .int .u32 (n : Int))) (hG : SpC P TR F1) (hf : P.funcs[f]? = some fn) (hb : fn.body.map strip = some (sc_RCStr T0 T1 T2 T3 F0 F1)) (hnm : (fn.name == "runtime.NumGoroutine") = false) (hn : fn.ntmps = 12) (hr : fn.results = #[.tmp 2]) :
  RC P TR gb f (pPrim true false .str) (tyP false .str) (okP false .str):=by
 subst hTR
 have hst:=rd_facts hR
 refine ⟨fnOK_of hf hb hnm,fun w S rb st hgb hrd hsrc=>?_⟩
 refine fCa hf hb hn (by simp) fun a0 hs hd ha=>?_
 have h0:=ha 0 _ rfl
 simp only [List.getElem_toArray,List.getElem_cons_zero,List.getElem_cons_succ] at h0
 refine wSq (wRg ?_)
 repeat (apply ops_1;(focus (simp (disch:=(try simp only [sPu]);omega) ;try rfl)))
 refine oNi (wSq (wRg ?_))
 iterate 1 (apply ops_1;(focus (simp (disch:=(try simp only [sPu]);omega) [h0];try rfl)))
 refine ops_call hF.1 (hF.2 w S rb st hgb hrd hsrc) (by simp (disch:=(try simp only [sPu]);omega) [h0]) ?_
 rintro e w1 ⟨v,rfl,q1,q2,⟨n,rfl⟩,q4⟩
 refine ⟨_,rfl,?_⟩
 repeat (apply ops_1;(focus (simp (disch:=(try simp only [sPu]);omega) [h0k,h1k];try rfl)))
 refine oNi ?_
 simp only [Exit.then]
 have hsrc1:∀ sb,S=some sb->sb ≠ rb/\sb < w1.heap.size:=fun sb h=>⟨(hsrc sb h).1,Nat.lt_of_lt_of_le (hsrc sb h).2 q2.size⟩
 rw [<- after_cnt_uv (sz:=2)] at q1
 have hcnt:=cnt_uv (sz:=2) q4
 have haft:after st (pPrim true false .str)=after (after st (pCount true 2)) (pSpan (IntKind.i64.wrap (IntKind.i64.wrap n - 1))):=by
  simp only [pPrim]
  refine after_prim fun b x r hb hp=>?_
  simp only [Bool.false_and,Bool.false_eq_true,if_false]
  rw [hcnt b x r hb hp]
  exact after_map
 refine wSq (wRg ?_)
 iterate 2 (apply ops_1;(focus (simp (disch:=(try simp only [sPu]);omega) [h0,h0k,h1k];try rfl)))
 refine ops_call hG.1 (hG.2 w1 S rb _ (IntKind.i64.wrap (IntKind.i64.wrap n - 1)) q1 hsrc1) (by simp (disch:=(try simp only [sPu]);omega) [h0]) ?_
 rintro e w2 ⟨S',base,cap,x,rfl,z1,z2,z3,z4,-⟩
 refine ⟨_,rfl,?_⟩
 refine oNo rfl (opw_str (cap:=cap) (base:=base) hS (by simp (disch:=(try simp only [sPu]);omega)) z3 ?_)
 repeat (apply ops_1;(focus (simp (disch:=(try simp only [sPu]);omega) ;try rfl)))
 refine oNi (wRt ?_)
 refine ret_tmp hr (by simp [dPu,hd]) ⟨_,rfl,by rw [haft];exact z1,q2.trans z2,?_,fun b t r hb hp=>?_⟩
 ·simp only [tyP,Bool.false_eq_true,if_false]
  exact ⟨_,by simp (disch:=(try simp only [sPu]);omega);rfl⟩
 ·simp only [pPrim] at hp
  obtain ⟨l,r1,k1,k2⟩:=rThen_some hp
  simp only [Bool.false_and,Bool.false_eq_true,if_false] at k2
  obtain ⟨s,r2,k3,k4⟩:=rThen_some k2
  obtain ⟨rfl,rfl⟩:=rOk_some k4
  subst hb
  have hx:=z4 r1 s _ (after_ok k1) (by rw [hcnt _ _ _ rfl k1];exact k3)
  intro hm
  refine ⟨⟨x.toArray⟩,by simp (disch:=(try simp only [sPu]);omega),?_,hm⟩
  simp [tS,Tree.s,hx.1]
theorem rNStr_ok {TR gb F0 F1 T0 T1 T2 T3 : Nat} (hTR : R.TR = TR) (hR : rdOK P R = true) (h0k : intK P T0 = some .i16) (h1k : intK P T1 = some .i64) (hS : bstrB P T2 T3 = true) (hZ : zeroOne P T3 = true) (hF : RC P TR gb F0 (pInt 2) (fun v => ∃ n, v = .int .i16 n) (fun _ _ n v => v = .int .i16 n)) (hG : SpC P TR F1) (hf : P.funcs[f]? = some fn) (hb : fn.body.map strip = some (sc_RNStr T0 T1 T2 T3 F0 F1)) (hnm : (fn.name == "runtime.NumGoroutine") = false) (hn : fn.ntmps = 14) (hr : fn.results = #[.tmp 2]) :
  RC P TR gb f (pPrim false true .str) (tyP true .str) (okP true .str):=by
 subst hTR
 have hst:=rd_facts hR
 refine ⟨fnOK_of hf hb hnm,fun w S rb st hgb hrd hsrc=>?_⟩
 refine fCa hf hb hn (by simp) fun a0 hs hd ha=>?_
 have h0:=ha 0 _ rfl
 simp only [List.getElem_toArray,List.getElem_cons_zero,List.getElem_cons_succ] at h0
 refine wSq (wRg ?_)
 repeat (apply ops_1;(focus (simp (disch:=(try simp only [sPu]);omega) ;try rfl)))
 refine oNi (wSq (wRg ?_))
 iterate 1 (apply ops_1;(focus (simp (disch:=(try simp only [sPu]);omega) [h0];try rfl)))
 refine ops_call hF.1 (hF.2 w S rb st hgb hrd hsrc) (by simp (disch:=(try simp only [sPu]);omega) [h0]) ?_
 rintro e w1 ⟨v,rfl,q1,q2,⟨n,rfl⟩,q4⟩
 refine ⟨_,rfl,?_⟩
 repeat (apply ops_1;(focus (simp (disch:=(try simp only [sPu]);omega) [h0k,h1k];try rfl)))
 refine oNi ?_
 simp only [Exit.then]
 have hsrc1:∀ sb,S=some sb->sb ≠ rb/\sb < w1.heap.size:=fun sb h=>⟨(hsrc sb h).1,Nat.lt_of_lt_of_le (hsrc sb h).2 q2.size⟩
 have q1:RdAt R.TR w1 S rb (after st (pCount false 2)):=q1
 have hcnt2:=cnt_int (k:=2) (by omega) q4
 have hcnt:=fun b x r hb hp=>(hcnt2 b x r hb hp).1
 obtain ⟨hZ1,iz,z,hiz,hzz,hz1⟩:=zeroOne_of hZ
 refine wSq (wSq (wRg ?_))
 repeat (apply ops_1;(focus (simp (disch:=(try simp only [sPu]);omega) ;try rfl)))
 refine oNi (wCd (t:=decide (n < 0)) (by simp (disch:=(try simp only [sPu]);omega)) ?_)
 refine Decidable.byCases (p:=n < 0) (fun hlt=>?_) (fun hlt=>?_)
 ·rw [if_pos (decide_eq_true hlt)]
  refine wSq (wRg ?_)
  repeat (apply ops_1;(focus (simp (disch:=(try simp only [sPu]);omega) ;try rfl)))
  refine oNi (wRt ?_)
  have haft:after st (pPrim false true .str)=after st (pCount false 2):=by
   simp only [pPrim]
   rw [after_prim (q:=rOk ()) fun b x r hb hp=>?_,after_rOk]
   have hx:=(hcnt2 b x r hb hp).2
   rw [if_pos (by simp;omega),after_rOk,after_rOk]
  simp only [Exit.then]
  refine ret_tmp hr (by simp [dPu,hd]) ⟨_,rfl,by rw [haft];exact q1,q2,?_,fun b t r hb hp=>?_⟩
  ·simp only [tyP,if_true]
   exact ⟨_,by simp (disch:=(try simp only [sPu]);omega);rfl⟩
  ·simp only [pPrim] at hp
   obtain ⟨l,r1,k1,k2⟩:=rThen_some hp
   have hx:=(hcnt2 b l r1 hb k1).2
   rw [if_pos (by simp;omega)] at k2
   obtain ⟨rfl,rfl⟩:=rOk_some k2
   intro hm
   simp only [reduceCtorEq,if_false,PVal,if_true,tNull,Tree.null]
   simp (disch:=(try simp only [sPu]);omega)
 rw [if_neg (by rw [decide_eq_false hlt];simp)]
 refine wSk ?_
 simp only [Exit.then]
 have haft:after st (pPrim false true .str)=after (after st (pCount false 2)) (pSpan (IntKind.i64.wrap n)):=by
  simp only [pPrim]
  refine after_prim fun b x r hb hp=>?_
  have hx:=(hcnt2 b x r hb hp).2
  rw [if_neg (by simp;omega),hcnt b x r hb hp]
  exact after_map
 refine wSq (wRg ?_)
 iterate 3 (apply ops_1;(focus (simp (disch:=(try simp only [sPu]);omega) [h0,h0k,h1k];try rfl)))
 refine ops_call hG.1 (hG.2 w1 S rb _ (IntKind.i64.wrap n) q1 hsrc1) (by simp (disch:=(try simp only [sPu]);omega) [h0]) ?_
 rintro e w2 ⟨S',base,cap,x,rfl,z1,z2,z3,z4,-⟩
 refine ⟨_,rfl,?_⟩
 refine oNo rfl (opw_str (cap:=cap) (base:=base) hS (by simp (disch:=(try simp only [sPu]);omega)) z3 ?_)
 refine oNo rfl (opw_alloc hiz hzz ?_)
 have hnew:=heap_alloc_new w2 (.cells z.cells T3)
 refine ops_stR (b:=w2.heap.size) (i:=0) (v:=.string ⟨x.toArray⟩) hZ1 (by simp (disch:=(try simp only [sPu]);omega)) (by simp (disch:=(try simp only [sPu]);omega)) rfl hnew (by omega) (oNi ?_)
 simp only [Exit.then]
 refine wSq (wRg ?_)
 repeat (apply ops_1;(focus (simp (disch:=(try simp only [sPu]);omega) ;try rfl)))
 refine oNi (wRt ?_)
 have hlt2:rb < w2.heap.size:=RdAt.lt z1
 have hon:Only rb w ((w2.alloc (.cells z.cells T3)).setRow w2.heap.size (z.cells.setIfInBounds 0 (.string ⟨x.toArray⟩))):=((q2.trans z2).alloc _).own (by have:=(q2.trans z2).size;omega) _
 have hrow3:=setRow_heap _ _ _ (z.cells.setIfInBounds 0 (.string ⟨x.toArray⟩)) _ _ hnew
 have hbl:∀ k,k < w2.heap.size->((w2.alloc (.cells z.cells T3)).setRow w2.heap.size (z.cells.setIfInBounds 0 (.string ⟨x.toArray⟩))).heap[k]?=w2.heap[k]?:=fun k hk=>by
  rw [setRow_other _ _ _ _ (by omega)]
  exact Below.heap_alloc _ _ _ hk
 have hsrc2:∀ sb,S=some sb->sb < w2.heap.size:=fun sb h=>Nat.lt_of_lt_of_le (hsrc1 sb h).2 z2.size
 refine ret_tmp hr (by simp [dPu,hd]) ⟨_,rfl,by rw [haft];exact RdAt.frame z1 (hbl _ hlt2) (fun sb h=>hbl _ (hsrc2 sb h)),hon,?_,fun b t r hb hp=>?_⟩
 ·simp only [tyP,if_true]
  exact ⟨_,by simp (disch:=(try simp only [sPu]);omega);rfl⟩
 ·simp only [pPrim] at hp
  obtain ⟨l,r1,k1,k2⟩:=rThen_some hp
  have hx:=(hcnt2 b l r1 hb k1).2
  rw [if_neg (by simp;omega)] at k2
  obtain ⟨s,r2,k3,k4⟩:=rThen_some k2
  obtain ⟨rfl,rfl⟩:=rOk_some k4
  subst hb
  have hxs:=z4 r1 s _ (after_ok k1) (by rw [hcnt _ _ _ rfl k1];exact k3)
  intro hm
  simp only [reduceCtorEq,if_false,PVal,if_true,tS,Tree.null,Bool.false_eq_true]
  refine ⟨w2.heap.size,0,⟨x.toArray⟩,by simp (disch:=(try simp only [sPu]);omega),.inr ⟨(q2.trans z2).size,by simp⟩,?_,?_,hm⟩
  ·rw [cell_of_row _ _ _ _ _ _ hrow3]
   simp [hz1]
  ·simp [Tree.s,hxs.1]
theorem rCNStr_ok {TR gb F0 F1 T0 T1 T2 T3 : Nat} (hTR : R.TR = TR) (hR : rdOK P R = true) (h0k : intK P T0 = some .u32) (h1k : intK P T1 = some .i64) (hS : bstrB P T2 T3 = true) (hZ : zeroOne P T3 = true) (hF : RC P TR gb F0 pUv (fun v => ∃ n, v = .int .u32 n) (fun _ _ n v => v = .int .u32 (n : Int))) (hG : SpC P TR F1) (hf : P.funcs[f]? = some fn) (hb : fn.body.map strip = some (sc_RCNStr T0 T1 T2 T3 F0 F1)) (hnm : (fn.name == "runtime.NumGoroutine") = false) (hn : fn.ntmps = 15) (hr : fn.results = #[.tmp 2]) :
  RC P TR gb f (pPrim true true .str) (tyP true .str) (okP true .str):=by
 subst hTR
 have hst:=rd_facts hR
 refine ⟨fnOK_of hf hb hnm,fun w S rb st hgb hrd hsrc=>?_⟩
 refine fCa hf hb hn (by simp) fun a0 hs hd ha=>?_
 have h0:=ha 0 _ rfl
 simp only [List.getElem_toArray,List.getElem_cons_zero,List.getElem_cons_succ] at h0
 refine wSq (wRg ?_)
 repeat (apply ops_1;(focus (simp (disch:=(try simp only [sPu]);omega) ;try rfl)))
 refine oNi (wSq (wRg ?_))
 iterate 1 (apply ops_1;(focus (simp (disch:=(try simp only [sPu]);omega) [h0];try rfl)))
 refine ops_call hF.1 (hF.2 w S rb st hgb hrd hsrc) (by simp (disch:=(try simp only [sPu]);omega) [h0]) ?_
 rintro e w1 ⟨v,rfl,q1,q2,⟨n,rfl⟩,q4⟩
 refine ⟨_,rfl,?_⟩
 repeat (apply ops_1;(focus (simp (disch:=(try simp only [sPu]);omega) [h0k,h1k];try rfl)))
 refine oNi ?_
 simp only [Exit.then]
 have hsrc1:∀ sb,S=some sb->sb ≠ rb/\sb < w1.heap.size:=fun sb h=>⟨(hsrc sb h).1,Nat.lt_of_lt_of_le (hsrc sb h).2 q2.size⟩
 rw [<- after_cnt_uv (sz:=2)] at q1
 have hcnt:=cnt_uv (sz:=2) q4
 obtain ⟨hZ1,iz,z,hiz,hzz,hz1⟩:=zeroOne_of hZ
 refine wSq (wSq (wRg ?_))
 repeat (apply ops_1;(focus (simp (disch:=(try simp only [sPu]);omega) ;try rfl)))
 refine oNi (wCd (t:=decide (IntKind.i64.wrap (IntKind.i64.wrap n - 1) < 0)) (by simp (disch:=(try simp only [sPu]);omega)) ?_)
 refine Decidable.byCases (p:=IntKind.i64.wrap (IntKind.i64.wrap n - 1) < 0) (fun hlt=>?_) (fun hlt=>?_)
 ·rw [if_pos (decide_eq_true hlt)]
  refine wSq (wRg ?_)
  repeat (apply ops_1;(focus (simp (disch:=(try simp only [sPu]);omega) ;try rfl)))
  refine oNi (wRt ?_)
  have haft:after st (pPrim true true .str)=after st (pCount true 2):=by
   simp only [pPrim]
   rw [after_prim (q:=rOk ()) fun b x r hb hp=>?_,after_rOk]
   have hx:=hcnt b x r hb hp
   rw [if_pos (by simp;omega),after_rOk,after_rOk]
  simp only [Exit.then]
  refine ret_tmp hr (by simp [dPu,hd]) ⟨_,rfl,by rw [haft];exact q1,q2,?_,fun b t r hb hp=>?_⟩
  ·simp only [tyP,if_true]
   exact ⟨_,by simp (disch:=(try simp only [sPu]);omega);rfl⟩
  ·simp only [pPrim] at hp
   obtain ⟨l,r1,k1,k2⟩:=rThen_some hp
   have hx:=hcnt b l r1 hb k1
   rw [if_pos (by simp;omega)] at k2
   obtain ⟨rfl,rfl⟩:=rOk_some k2
   intro hm
   simp only [reduceCtorEq,if_false,PVal,if_true,tNull,Tree.null]
   simp (disch:=(try simp only [sPu]);omega)
 rw [if_neg (by rw [decide_eq_false hlt];simp)]
 refine wSk ?_
 simp only [Exit.then]
 have haft:after st (pPrim true true .str)=after (after st (pCount true 2)) (pSpan (IntKind.i64.wrap (IntKind.i64.wrap n - 1))):=by
  simp only [pPrim]
  refine after_prim fun b x r hb hp=>?_
  have hx:=hcnt b x r hb hp
  rw [if_neg (by simp;omega),hcnt b x r hb hp]
  exact after_map
 refine wSq (wRg ?_)
 iterate 2 (apply ops_1;(focus (simp (disch:=(try simp only [sPu]);omega) [h0,h0k,h1k];try rfl)))
 refine ops_call hG.1 (hG.2 w1 S rb _ (IntKind.i64.wrap (IntKind.i64.wrap n - 1)) q1 hsrc1) (by simp (disch:=(try simp only [sPu]);omega) [h0]) ?_
 rintro e w2 ⟨S',base,cap,x,rfl,z1,z2,z3,z4,-⟩
 refine ⟨_,rfl,?_⟩
 refine oNo rfl (opw_str (cap:=cap) (base:=base) hS (by simp (disch:=(try simp only [sPu]);omega)) z3 ?_)
 refine oNo rfl (opw_alloc hiz hzz ?_)
 have hnew:=heap_alloc_new w2 (.cells z.cells T3)
 refine ops_stR (b:=w2.heap.size) (i:=0) (v:=.string ⟨x.toArray⟩) hZ1 (by simp (disch:=(try simp only [sPu]);omega)) (by simp (disch:=(try simp only [sPu]);omega)) rfl hnew (by omega) (oNi ?_)
 simp only [Exit.then]
 refine wSq (wRg ?_)
 repeat (apply ops_1;(focus (simp (disch:=(try simp only [sPu]);omega) ;try rfl)))
 refine oNi (wRt ?_)
 have hlt2:rb < w2.heap.size:=RdAt.lt z1
 have hon:Only rb w ((w2.alloc (.cells z.cells T3)).setRow w2.heap.size (z.cells.setIfInBounds 0 (.string ⟨x.toArray⟩))):=((q2.trans z2).alloc _).own (by have:=(q2.trans z2).size;omega) _
 have hrow3:=setRow_heap _ _ _ (z.cells.setIfInBounds 0 (.string ⟨x.toArray⟩)) _ _ hnew
 have hbl:∀ k,k < w2.heap.size->((w2.alloc (.cells z.cells T3)).setRow w2.heap.size (z.cells.setIfInBounds 0 (.string ⟨x.toArray⟩))).heap[k]?=w2.heap[k]?:=fun k hk=>by
  rw [setRow_other _ _ _ _ (by omega)]
  exact Below.heap_alloc _ _ _ hk
 have hsrc2:∀ sb,S=some sb->sb < w2.heap.size:=fun sb h=>Nat.lt_of_lt_of_le (hsrc1 sb h).2 z2.size
 refine ret_tmp hr (by simp [dPu,hd]) ⟨_,rfl,by rw [haft];exact RdAt.frame z1 (hbl _ hlt2) (fun sb h=>hbl _ (hsrc2 sb h)),hon,?_,fun b t r hb hp=>?_⟩
 ·simp only [tyP,if_true]
  exact ⟨_,by simp (disch:=(try simp only [sPu]);omega);rfl⟩
 ·simp only [pPrim] at hp
  obtain ⟨l,r1,k1,k2⟩:=rThen_some hp
  have hx:=hcnt b l r1 hb k1
  rw [if_neg (by simp;omega)] at k2
  obtain ⟨s,r2,k3,k4⟩:=rThen_some k2
  obtain ⟨rfl,rfl⟩:=rOk_some k4
  subst hb
  have hxs:=z4 r1 s _ (after_ok k1) (by rw [hcnt _ _ _ rfl k1];exact k3)
  intro hm
  simp only [reduceCtorEq,if_false,PVal,if_true,tS,Tree.null,Bool.false_eq_true]
  refine ⟨w2.heap.size,0,⟨x.toArray⟩,by simp (disch:=(try simp only [sPu]);omega),.inr ⟨(q2.trans z2).size,by simp⟩,?_,?_,hm⟩
  ·rw [cell_of_row _ _ _ _ _ _ hrow3]
   simp [hz1]
  ·simp [Tree.s,hxs.1]
end
def sc_RArr (R:RTy) (T2 F0:Nat):SC:=.seq (.reg [⟨some 2,.assign (.const (.int .i32 0)),none⟩]) (.seq (.reg [mv 4 0,cal 5 F0 [4],asg 3 5]) (.seq (.seq (.reg [mv 6 0,nilc 7 6,fa 8 R.TR 7 0,ld 9 R.TB 8,lenOp 10 R.TB 9,mv 11 3,⟨some 12,.convert T2 R.I (.tmp 11),none⟩,⟨some 13,.binOp .lss R.I (.tmp 10) (.tmp 12) R.I,none⟩]) (.cond (.tmp 13) (rFail R 14 2 (.int .i32 0)) (.skip))) (.seq (.reg [mv 20 3,asg 2 20]) (.ret))))
def sc_RCArr (R:RTy) (T0 T1 F0:Nat):SC:=.seq (.reg [⟨some 2,.assign (.const (.int .i32 0)),none⟩]) (.seq (.reg [mv 4 0,cal 5 F0 [4],⟨some 6,.convert T0 T1 (.tmp 5),none⟩,⟨some 7,.binOp .sub T1 (.tmp 6) (.const (.int .i32 1)) T1,none⟩,asg 3 7]) (.seq (.seq (.reg [mv 8 0,nilc 9 8,fa 10 R.TR 9 0,ld 11 R.TB 10,lenOp 12 R.TB 11,mv 13 3,⟨some 14,.convert T1 R.I (.tmp 13),none⟩,⟨some 15,.binOp .lss R.I (.tmp 12) (.tmp 14) R.I,none⟩]) (.cond (.tmp 15) (rFail R 16 2 (.int .i32 0)) (.skip))) (.seq (.reg [mv 22 3,asg 2 22]) (.ret))))
def pLen0 (flex:Bool):Rd Int:=if flex then rThen pUv fun n=>rOk (if n=2147483648 then 2147483647 else (if n < 2147483648 then (n:Int) else (n:Int) - 4294967296) - 1) else pInt 4
theorem pLen_eq (flex:Bool):pLen flex=rThen (pLen0 flex) fun l b=>if (b.length:Int) < l then none else some (l,b):=rfl
theorem wrap64_i32 {n m:Int} (h:n=IntKind.i32.wrap m):IntKind.i64.wrap n=n:=by
 subst h
 have:-2147483648<=IntKind.i32.wrap m/\IntKind.i32.wrap m < 2147483648:=by
  simp only [IntKind.wrap,IntKind.bits,IntKind.signed]
  simp
  split <;> omega
 exact wrap64 (by omega) (by omega)
theorem arrCnt_of {n:Nat} (h:n < 4294967296):IntKind.i32.wrap (IntKind.i32.wrap (n:Int) - 1)=if n=2147483648 then 2147483647 else (if n < 2147483648 then (n:Int) else (n:Int) - 4294967296) - 1:=by
 simp only [IntKind.wrap,IntKind.bits,IntKind.signed]
 simp
 split <;> split <;> (try split) <;> (try split) <;> omega
section
variable {P:Program} {R:RTy} {f:FuncId} {fn:Func}
theorem rArr_ok {TR gb F0 T2 : Nat} (hTR : R.TR = TR) (hR : rdOK P R = true) (h2k : intK P T2 = some .i32) (hF : RC P TR gb F0 (pInt 4) (fun v => ∃ n, v = .int .i32 n) (fun _ _ n v => v = .int .i32 n)) (hf : P.funcs[f]? = some fn) (hb : fn.body.map strip = some (sc_RArr R T2 F0)) (hnm : (fn.name == "runtime.NumGoroutine") = false) (hn : fn.ntmps = 21) (hr : fn.results = #[.tmp 2]) :
  RC P TR gb f (pLen false) (fun v=>∃ n,v=.int .i32 n) (fun _ _ n v=>v=.int .i32 n):=by
 subst hTR
 have hst:=rd_facts hR
 refine ⟨fnOK_of hf hb hnm,fun w S rb st hgb hrd hsrc=>?_⟩
 refine fCa hf hb hn (by simp) fun a0 hs hd ha=>?_
 have h0:=ha 0 _ rfl
 simp only [List.getElem_toArray,List.getElem_cons_zero,List.getElem_cons_succ] at h0
 refine wSq (wRg ?_)
 repeat (apply ops_1;(focus (simp (disch:=(try simp only [sPu]);omega) ;try rfl)))
 refine oNi (wSq (wRg ?_))
 iterate 1 (apply ops_1;(focus (simp (disch:=(try simp only [sPu]);omega) [h0];try rfl)))
 refine ops_call hF.1 (hF.2 w S rb st hgb hrd hsrc) (by simp (disch:=(try simp only [sPu]);omega) [h0]) ?_
 rintro e w1 ⟨v,rfl,q1,q2,⟨n,rfl⟩,q4⟩
 refine ⟨_,rfl,?_⟩
 repeat (apply ops_1;(focus (simp (disch:=(try simp only [sPu]);omega) ;try rfl)))
 refine oNi ?_
 simp only [Exit.then]
 have q1:RdAt R.TR w1 S rb (after st (pLen0 false)):=q1
 have hcnt:∀ b x r,st=some b->pLen0 false b=some (x,r)->n=x/\IntKind.i64.wrap n=n:=by
  intro b x r hb hp
  have hv:=q4 b x r hb hp
  simp only [Value.int.injEq,true_and] at hv
  subst hv
  have:=pInt_rng (k:=4) (by omega) hp
  exact ⟨rfl,wrap64 (by omega) (by omega)⟩
 obtain ⟨bad,len,base,cap,hrow,hlen⟩:∃ bad len base cap,rdRow R.TR w1 rb (.slice base len cap) bad/\((after st (pLen0 false)=none)∨∃ rest,after st (pLen0 false)=some rest/\len=rest.length):=by
  rcases rdAt_row q1 with ⟨e1,hrow⟩ | ⟨rest,base,cap,e1,hrow,-,-⟩
  ·exact ⟨_,_,_,_,hrow,.inl e1⟩
  ·exact ⟨_,_,_,_,hrow,.inr ⟨_,e1,rfl⟩⟩
 have hc:=rdRow_cells hrow
 refine wSq (wSq (wRg ?_))
 repeat (apply ops_1;(focus (simp (disch:=(try simp only [sPu]);omega) [hst,h0,hc,h2k];try rfl)))
 refine oNi (wCd (t:=decide ((len:Int) < IntKind.i64.wrap n)) (by simp (disch:=(try simp only [sPu]);omega)) ?_)
 have key:(after st (pLen false)=if (len:Int) < IntKind.i64.wrap n then none else after st (pLen0 false)):=by
  rw [pLen_eq]
  cases st with
  | none=>simp [after]
  | some b =>
   cases hp:pLen0 false b with
   | none=>rw [after_then_none (after_no hp),after_no hp];simp
   | some z =>
    obtain ⟨x,r⟩:=z
    obtain ⟨rfl,e2⟩:=hcnt b x r rfl hp
    rw [after_then _ _ _ rfl hp,after_ok hp]
    rcases hlen with e | ⟨rest,e,rfl⟩
    ·rw [after_ok hp] at e
     cases e
    ·rw [after_ok hp] at e
     cases e
     rw [e2]
     by_cases h:(r.length:Int) < n <;> simp [after,h]
 refine Decidable.byCases (p:=(len:Int) < IntKind.i64.wrap n) (fun hl=>?_) (fun hl=>?_)
 ·have hno:after st (pLen false)=none:=by rw [key,if_pos hl]
  rw [if_pos (decide_eq_true hl)]
  refine rFail_ok (S:=S) hR hrow (by simp (disch:=(try simp only [sPu]);omega) [h0]) (by omega) (by simp [sPu,hs]) (by simp [sPu,hs]) fun a' w' z1 z2 z3 z4=>?_
  simp only [Exit.then]
  refine ret_tmp hr (by rw [z1];simp [dPu,hd]) ⟨_,rfl,by rw [hno];exact z3,q2.trans z4,⟨0,z2⟩,fun b x r h hp=>?_⟩
  rw [h,after_ok hp] at hno
  cases hno
 ·have hyes:after st (pLen false)=after st (pLen0 false):=by rw [key,if_neg hl]
  rw [if_neg (by rw [decide_eq_false hl];simp)]
  refine wSk ?_
  simp only [Exit.then]
  refine wSq (wRg ?_)
  repeat (apply ops_1;(focus (simp (disch:=(try simp only [sPu]);omega) ;try rfl)))
  refine oNi (wRt ?_)
  try simp only [Exit.then]
  refine ret_tmp hr (by simp [dPu,hd]) ⟨_,rfl,by rw [hyes];exact q1,q2,⟨n,by simp (disch:=(try simp only [sPu]);omega)⟩,fun b x r h hp=>?_⟩
  rw [pLen_eq] at hp
  obtain ⟨l,r1,k1,k2⟩:=rThen_some hp
  obtain ⟨rfl,-⟩:=hcnt b l r1 h k1
  split at k2
  ·cases k2
  ·cases k2
   simp (disch:=(try simp only [sPu]);omega)
theorem rCArr_ok {TR gb F0 T0 T1 : Nat} (hTR : R.TR = TR) (hR : rdOK P R = true) (h0k : intK P T0 = some .u32) (h2k : intK P T1 = some .i32) (hF : RC P TR gb F0 pUv (fun v => ∃ n, v = .int .u32 n) (fun _ _ n v => v = .int .u32 (n : Int))) (hf : P.funcs[f]? = some fn) (hb : fn.body.map strip = some (sc_RCArr R T0 T1 F0)) (hnm : (fn.name == "runtime.NumGoroutine") = false) (hn : fn.ntmps = 23) (hr : fn.results = #[.tmp 2]) :
  RC P TR gb f (pLen true) (fun v=>∃ n,v=.int .i32 n) (fun _ _ n v=>v=.int .i32 n):=by
 subst hTR
 have hst:=rd_facts hR
 refine ⟨fnOK_of hf hb hnm,fun w S rb st hgb hrd hsrc=>?_⟩
 refine fCa hf hb hn (by simp) fun a0 hs hd ha=>?_
 have h0:=ha 0 _ rfl
 simp only [List.getElem_toArray,List.getElem_cons_zero,List.getElem_cons_succ] at h0
 refine wSq (wRg ?_)
 repeat (apply ops_1;(focus (simp (disch:=(try simp only [sPu]);omega) ;try rfl)))
 refine oNi (wSq (wRg ?_))
 iterate 1 (apply ops_1;(focus (simp (disch:=(try simp only [sPu]);omega) [h0];try rfl)))
 refine ops_call hF.1 (hF.2 w S rb st hgb hrd hsrc) (by simp (disch:=(try simp only [sPu]);omega) [h0]) ?_
 rintro e w1 ⟨v,rfl,q1,q2,⟨n0,rfl⟩,q4⟩
 refine ⟨_,rfl,?_⟩
 obtain ⟨n,hn⟩:∃ n,n=IntKind.i32.wrap (IntKind.i32.wrap n0 - 1):=⟨_,rfl⟩
 repeat (apply ops_1;(focus (simp (disch:=(try simp only [sPu]);omega) [h0k,h2k,<- hn];try rfl)))
 refine oNi ?_
 simp only [Exit.then]
 have q1:RdAt R.TR w1 S rb (after st (pLen0 true)):=by
  have:after st (pLen0 true)=after st pUv:=by simp only [pLen0,if_true];exact after_map
  rw [this];exact q1
 have hcnt:∀ b x r,st=some b->pLen0 true b=some (x,r)->n=x/\IntKind.i64.wrap n=n:=by
  intro b x r hb hp
  refine ⟨?_,wrap64_i32 hn⟩
  simp only [pLen0,if_true] at hp
  obtain ⟨y,r1,k1,k2⟩:=rThen_some hp
  obtain ⟨rfl,-⟩:=rOk_some k2
  have hv:=q4 b y r1 hb k1
  simp only [Value.int.injEq,true_and] at hv
  subst hv
  rw [hn]
  exact arrCnt_of (pUv_facts k1).1
 obtain ⟨bad,len,base,cap,hrow,hlen⟩:∃ bad len base cap,rdRow R.TR w1 rb (.slice base len cap) bad/\((after st (pLen0 true)=none)∨∃ rest,after st (pLen0 true)=some rest/\len=rest.length):=by
  rcases rdAt_row q1 with ⟨e1,hrow⟩ | ⟨rest,base,cap,e1,hrow,-,-⟩
  ·exact ⟨_,_,_,_,hrow,.inl e1⟩
  ·exact ⟨_,_,_,_,hrow,.inr ⟨_,e1,rfl⟩⟩
 have hc:=rdRow_cells hrow
 refine wSq (wSq (wRg ?_))
 repeat (apply ops_1;(focus (simp (disch:=(try simp only [sPu]);omega) [hst,h0,hc,h2k,<- hn];try rfl)))
 refine oNi (wCd (t:=decide ((len:Int) < IntKind.i64.wrap n)) (by simp (disch:=(try simp only [sPu]);omega) [<- hn]) ?_)
 have key:(after st (pLen true)=if (len:Int) < IntKind.i64.wrap n then none else after st (pLen0 true)):=by
  rw [pLen_eq]
  cases st with
  | none=>simp [after]
  | some b =>
   cases hp:pLen0 true b with
   | none=>rw [after_then_none (after_no hp),after_no hp];simp
   | some z =>
    obtain ⟨x,r⟩:=z
    obtain ⟨rfl,e2⟩:=hcnt b x r rfl hp
    rw [after_then _ _ _ rfl hp,after_ok hp]
    rcases hlen with e | ⟨rest,e,rfl⟩
    ·rw [after_ok hp] at e
     cases e
    ·rw [after_ok hp] at e
     cases e
     rw [e2]
     by_cases h:(r.length:Int) < n <;> simp [after,h]
 refine Decidable.byCases (p:=(len:Int) < IntKind.i64.wrap n) (fun hl=>?_) (fun hl=>?_)
 ·have hno:after st (pLen true)=none:=by rw [key,if_pos hl]
  rw [if_pos (decide_eq_true hl)]
  refine rFail_ok (S:=S) hR hrow (by simp (disch:=(try simp only [sPu]);omega) [h0]) (by omega) (by simp [sPu,hs]) (by simp [sPu,hs]) fun a' w' z1 z2 z3 z4=>?_
  simp only [Exit.then]
  refine ret_tmp hr (by rw [z1];simp [dPu,hd]) ⟨_,rfl,by rw [hno];exact z3,q2.trans z4,⟨0,z2⟩,fun b x r h hp=>?_⟩
  rw [h,after_ok hp] at hno
  cases hno
 ·have hyes:after st (pLen true)=after st (pLen0 true):=by rw [key,if_neg hl]
  rw [if_neg (by rw [decide_eq_false hl];simp)]
  refine wSk ?_
  simp only [Exit.then]
  refine wSq (wRg ?_)
  repeat (apply ops_1;(focus (simp (disch:=(try simp only [sPu]);omega) ;try rfl)))
  refine oNi (wRt ?_)
  try simp only [Exit.then]
  refine ret_tmp hr (by simp [dPu,hd]) ⟨_,rfl,by rw [hyes];exact q1,q2,⟨n,by simp (disch:=(try simp only [sPu]);omega) [hn]⟩,fun b x r h hp=>?_⟩
  rw [pLen_eq] at hp
  obtain ⟨l,r1,k1,k2⟩:=rThen_some hp
  obtain ⟨rfl,-⟩:=hcnt b l r1 h k1
  split at k2
  ·cases k2
  ·cases k2
   simp (disch:=(try simp only [sPu]);omega) [hn]
end
section
variable {P:Program} {TR gb:Nat} {f:FuncId}
theorem num_i16 (h:RC P TR gb f (pInt 2) (fun v=>∃ n,v=.int .i16 n) (fun _ _ n v=>v=.int .i16 n)):RC P TR gb f (pPrim false false .i16) (tyP false .i16) (okP false .i16) :=
 RC.map (g:=tN) h (fun v hv=>hv) fun w F n v hv _=>hv
theorem num_i32 (h:RC P TR gb f (pInt 4) (fun v=>∃ n,v=.int .i32 n) (fun _ _ n v=>v=.int .i32 n)):RC P TR gb f (pPrim false false .i32) (tyP false .i32) (okP false .i32) :=
 RC.map (g:=tN) h (fun v hv=>hv) fun w F n v hv _=>hv
theorem num_i64 (h:RC P TR gb f (pInt 8) (fun v=>∃ n,v=.int .i64 n) (fun _ _ n v=>v=.int .i64 n)):RC P TR gb f (pPrim false false .i64) (tyP false .i64) (okP false .i64) :=
 RC.map (g:=tN) h (fun v hv=>hv) fun w F n v hv _=>hv
end
end Go.Proofs.YtdnpafdgglpagaaGreatDoor.K
namespace Go.Proofs.YtdnpafdgglpagaaGreatDoor.K
open Go Go.RowKit Go.Proofs.YtdnpafdgglpagaaGreatDoor.T
set_option linter.unusedVariables false
set_option linter.unusedSimpArgs false
set_option maxHeartbeats 1000000
def mapU (P:Program) (T:Nat):Bool:=oneB P T && (match P.underlying T with
 | some (.map k _)=>(match P.underlying k with | some (.int .u32)=>true | _=>false)
 | _=>false)
theorem mapU_of {P:Program} {T:Nat} (h:mapU P T=true):oneB P T=true/\∃ k e,P.underlying T=some (.map k e)/\P.underlying k=some (.int .u32):=by
 simp only [mapU,Bool.and_eq_true] at h
 obtain ⟨h1,h⟩:=h
 split at h <;> try (simp at h;done)
 rename_i k e hu
 split at h <;> try (simp at h;done)
 rename_i hk
 exact ⟨h1,k,e,hu,hk⟩
theorem setTag_self (t:Nat × Bytes):∀ u,t ∈ setTag t u
 | []=>by simp [setTag]
 | x :: r=>by
  simp only [setTag]
  split
  ·exact List.mem_cons_of_mem _ (setTag_self t r)
  ·split <;> simp
theorem setTag_new {t:Nat × Bytes}:∀ {u:List (Nat × Bytes)},(∀ x ∈ u,x.1 ≠ t.1)->((setTag t u).map (·.1)).Perm (u.map (·.1) ++ [t.1])
 | [],_=>by simp [setTag]
 | x :: r,h=>by
  simp only [setTag]
  split
  ·simp only [List.map_cons,List.cons_append]
   exact (setTag_new fun y hy=>h y (List.mem_cons_of_mem _ hy)).cons _
  ·rw [if_neg (h x (.head _))]
   simp only [List.map_cons]
   exact (List.perm_append_comm (l₁:=x.1 :: r.map (·.1)) (l₂:=[t.1])).symm
theorem setTag_old {t:Nat × Bytes}:∀ {u:List (Nat × Bytes)},Sorted u->(∃ x ∈ u,x.1=t.1)->(setTag t u).map (·.1)=u.map (·.1)
 | [],_,h=>by simp at h
 | x :: r,hs,h=>by
  have hs':=List.pairwise_cons.1 hs
  simp only [setTag]
  split
  ·rename_i hlt
   simp only [List.map_cons]
   rw [setTag_old hs'.2]
   obtain ⟨y,hy,he⟩:=h
   rcases List.mem_cons.1 hy with rfl | hy
   ·omega
   ·exact ⟨y,hy,he⟩
  ·split
   ·rename_i he
    simp [he]
   ·exfalso
    obtain ⟨y,hy,he⟩:=h
    rcases List.mem_cons.1 hy with rfl | hy
    ·omega
    ·have:=hs'.1 y hy
     omega
theorem sorted_uniq:∀ {u:List (Nat × Bytes)},Sorted u->∀ x ∈ u,∀ y ∈ u,x.1=y.1->x=y
 | [],_,x,hx,_,_,_=>by simp at hx
 | z :: r,hs,x,hx,y,hy,he=>by
  have hs':=List.pairwise_cons.1 hs
  rcases List.mem_cons.1 hx with e1 | hx1
  ·rcases List.mem_cons.1 hy with e2 | hy1
   ·rw [e1,e2]
   ·have:=hs'.1 y hy1
    rw [<- e1] at this
    omega
  ·rcases List.mem_cons.1 hy with e2 | hy1
   ·have:=hs'.1 x hx1
    rw [<- e2] at this
    omega
   ·exact sorted_uniq hs'.2 x hx1 y hy1 he
theorem bytesAt_F {w:World} {F F':Nat->Prop} {base:Option Addr} {bs:Bytes} (h:BytesAt w F base bs) (hF:∀ k,F k->F' k):BytesAt w F' base bs:=by
 rcases h with h | ⟨b,q,h1,h2,h3⟩
 ·exact .inl h
 ·exact .inr ⟨b,q,h1,hF _ h2,h3⟩
theorem bytesAt_keep {w w':World} {F:Nat->Prop} {base:Option Addr} {bs:Bytes} (h:BytesAt w F base bs) (hF:∀ k (a:Addr),F k->a.block=k->∀ v,w.cell? a=some v->w'.cell? a=some v):BytesAt w' F base bs:=by
 rcases h with h | ⟨b,q,h1,h2,h3⟩
 ·exact .inl h
 ·exact .inr ⟨b,q,h1,h2,fun j u hj=>hF b _ h2 rfl _ (h3 j u hj)⟩
theorem tagsEs_push {w:World} {F:Nat->Prop} {es:Array MapEntry} {clock:Nat} {u:List (Nat × Bytes)} {k:Nat} {bs:Bytes} {base:Option Addr} {cap:Nat} (h:TagsEs w F es clock u) (hn:∀ x ∈ es.toList,x.key ≠ .int .u32 (k:Int)) (hs:Sorted u) (hb:BytesAt w F base bs) :
  TagsEs w F (es.push { key:=.int .u32 (k:Int),val:=.slice base bs.length cap,born:=clock }) (clock+1) (setTag (k,bs) u):=by
 obtain ⟨h1,h2,h3⟩:=h
 have hnk:∀ x ∈ u,x.1 ≠ k:=fun x hx e=>by
  have:Value.int .u32 (x.1:Int) ∈ es.toList.map (·.key):=h1.mem_iff.2 (List.mem_map_of_mem hx)
  obtain ⟨y,hy,hye⟩:=List.mem_map.1 this
  exact hn y hy (by rw [hye,e])
 refine ⟨?_,MapKept.stamped_push h2 hn,?_⟩
 ·have hp:=(setTag_new (t:=(k,bs)) hnk).map (fun n:Nat=>Value.int .u32 (n:Int))
  simp only [List.map_map,List.map_append,List.map_cons,List.map_nil,Function.comp_def] at hp
  simp only [Array.toList_push,List.map_append,List.map_cons,List.map_nil]
  exact (h1.append_right _).trans hp.symm
 ·intro e he x hx hk
  simp only [Array.toList_push,List.mem_append,List.mem_singleton] at he
  have hst:Sorted (setTag (k,bs) u):=setTag_sorted hs
  rcases he with he | rfl
  ·have hxk:x.1 ≠ k:=fun e2=>hn e he (by rw [hk,e2])
   rcases setTag_mem hx with rfl | hx
   ·exact absurd rfl hxk
   ·exact h3 e he x hx hk
  ·simp only [Value.int.injEq,true_and] at hk
   have hxe:x=(k,bs):=sorted_uniq hst x hx _ (setTag_self _ _) (by simp only;omega)
   subst hxe
   exact ⟨base,cap,rfl,hb⟩
theorem tagsEs_modify {w:World} {F:Nat->Prop} {es:Array MapEntry} {clock:Nat} {u:List (Nat × Bytes)} {k j:Nat} {e0:MapEntry} {bs:Bytes} {base:Option Addr} {cap:Nat} (h:TagsEs w F es clock u) (hj:es[j]?=some e0) (hk0:e0.key=.int .u32 (k:Int)) (hs:Sorted u) (hb:BytesAt w F base bs) :
  TagsEs w F (es.modify j fun e=>{ e with key:=.int .u32 (k:Int),val:=.slice base bs.length cap }) clock (setTag (k,bs) u):=by
 obtain ⟨h1,h2,h3⟩:=h
 have hkeys:∀ e',es[j]?=some e'->({ e' with key:=Value.int .u32 (k:Int),val:=.slice base bs.length cap }:MapEntry).key=e'.key:=fun e' he'=>by
  rw [hj] at he'
  cases he'
  exact hk0.symm
 have hmem:e0 ∈ es.toList:=by
  rw [<- Array.getElem?_toList] at hj
  exact List.mem_of_getElem? hj
 have hin:∃ x ∈ u,x.1=k:=by
  have:e0.key ∈ u.map fun x=>Value.int .u32 (x.1:Int):=h1.mem_iff.1 (List.mem_map_of_mem hmem)
  obtain ⟨x,hx,hxe⟩:=List.mem_map.1 this
  rw [hk0] at hxe
  simp only [Value.int.injEq,true_and] at hxe
  exact ⟨x,hx,by omega⟩
 refine ⟨?_,MapKept.stamped_modify h2 _ _ (fun _ _=>rfl) (fun e' _ he'=>hkeys e' he'),?_⟩
 ·rw [MapKept.modify_keys _ _ hkeys]
  have:(setTag (k,bs) u).map (fun x=>Value.int .u32 (x.1:Int))=u.map fun x=>Value.int .u32 (x.1:Int):=by
   have:=congrArg (List.map fun n:Nat=>Value.int .u32 (n:Int)) (setTag_old (t:=(k,bs)) hs hin)
   simpa only [List.map_map,Function.comp_def] using this
  rw [this]
  exact h1
 ·intro e he x hx hk
  have hst:Sorted (setTag (k,bs) u):=setTag_sorted hs
  obtain ⟨i,hi⟩:=List.getElem?_of_mem he
  rw [Array.getElem?_toList,Array.getElem?_modify] at hi
  by_cases hij:j=i
  ·subst hij
   rw [if_pos rfl,hj] at hi
   simp only [Option.map_some,Option.some.injEq] at hi
   subst hi
   simp only [Value.int.injEq,true_and] at hk
   have hxe:x=(k,bs):=sorted_uniq hst x hx _ (setTag_self _ _) (by simp only;omega)
   subst hxe
   exact ⟨base,cap,rfl,hb⟩
  ·rw [if_neg hij] at hi
   have hem:e ∈ es.toList:=by
    rw [<- Array.getElem?_toList] at hi
    exact List.mem_of_getElem? hi
   have hne:e.key ≠ .int .u32 (k:Int):=fun hek=>by
    have hnd:=h2.2.2
    have e1:(es.toList.map (·.key))[i]?=some (.int .u32 (k:Int)):=by rw [List.getElem?_map,Array.getElem?_toList,hi,Option.map_some,hek]
    have e2:(es.toList.map (·.key))[j]?=some (.int .u32 (k:Int)):=by rw [List.getElem?_map,Array.getElem?_toList,hj,Option.map_some,hk0]
    have hil:=(List.getElem?_eq_some_iff.1 e1).1
    have:=(List.getElem?_inj hil hnd).1 (e1.trans e2.symm)
    exact hij this.symm
   have hxk:x.1 ≠ k:=fun e2=>hne (by rw [hk,e2])
   rcases setTag_mem hx with rfl | hx
   ·exact absurd rfl hxk
   ·exact h3 e hem x hx hk
section
variable {P:Program} {a:Act} {w:World} {K:Act->World->Prop} {d:Option Tmp} {g:Option (Nat × Bool)}
theorem opw_mapNil {T T':Nat} {x:Operand} {m:Option Nat} (hT:mapU P T=true) (hx:a.eval x=.map m) (h:K (a.put d (.bool m.isNone)) w):opw P ⟨d,.binOp .eql T x (.const (.map none)) T',g⟩ a w K:=by
 obtain ⟨-,k,e,hu,hk⟩:=mapU_of hT
 refine oVa (v:=.bool m.isNone) (by simp) (fun p hp=>?_) h
 have he:(Op.equal T (.map m) (.map none)).run P w=.ok m.isNone w:=by
  have hd:∀ d,(Op.equalIn (d+1) T (.map m) (.map none)).run P w=.ok m.isNone w:=fun d=>by
   cases m <;> simp [Op.equalIn,run_underlying hu]
  exact hd 9999
 simp [execOp,hp,hx,eCo,eqGuard,binOp,he]
theorem opw_makeMap {T:Nat} (h:K (a.put d (.map (some w.heap.size))) (w.alloc (.map #[] 0))):opw P ⟨d,.makeMap T none,g⟩ a w K:=by
 refine oVa (v:=.map (some w.heap.size)) (w':=w.alloc (.map #[] 0)) (by simp) (fun p hp=>?_) h
 have:(Instr.makeMap T none).run P w=.ok (.map (some w.heap.size)) (w.alloc (.map #[] 0)):=rfl
 simp [execOp,hp,this]
def mapSet (w:World) (r:Nat) (es:Array MapEntry) (clock:Nat):World:={ w with heap:=w.heap.setIfInBounds r (.map es clock) }
theorem mapSet_at {r:Nat} {es es':Array MapEntry} {c c':Nat} (h:w.heap[r]?=some (.map es c)):(mapSet w r es' c').heap[r]?=some (.map es' c'):=(MapKept.heap_set h).1
theorem mapSet_other {r k:Nat} {es':Array MapEntry} {c':Nat} (hk:k ≠ r):(mapSet w r es' c').heap[k]?=w.heap[k]?:=by
 simp [mapSet,Ne.symm hk]
theorem opw_mapUpdate {T r k clock:Nat} {m x y:Operand} {es:Array MapEntry} {F:Nat->Prop} {u:List (Nat × Bytes)} {base:Option Addr} {cap:Nat} {bs:Bytes} (hT:mapU P T=true) (hm:a.eval m=.map (some r)) (hx:a.eval x=.int .u32 (k:Int)) (hy:a.eval y=.slice base bs.length cap)
  (hr:w.heap[r]?=some (.map es clock)) (ht:TagsEs w F es clock u) (hs:Sorted u) (hb:BytesAt w F base bs)
  (h:∀ es' clock',TagsEs w F es' clock' (setTag (k,bs) u)->K (a.put d undef) (mapSet w r es' clock')):opw P ⟨d,.mapUpdate T m x y,g⟩ a w K:=by
 obtain ⟨-,kt,e,hu,hk⟩:=mapU_of hT
 have hik:MapKept.IsKey (.int .u32) (.int .u32 (k:Int)):=rfl
 have hks:∀ z ∈ es.toList,MapKept.IsKey (.int .u32) z.key:=fun z hz=>by
  have:z.key ∈ u.map fun x=>Value.int .u32 (x.1:Int):=ht.1.mem_iff.1 (List.mem_map_of_mem hz)
  obtain ⟨x,_,hxe⟩:=List.mem_map.1 this
  rw [<- hxe]
  rfl
 rcases MapKept.findNow_spec hik es.toList 0 hks with ⟨h1,h2⟩ | ⟨j,e0,h1,h2,h3⟩
 ·refine opw_skip (w':=mapSet w r (es.push { key:=.int .u32 (k:Int),val:=.slice base bs.length cap,born:=clock }) (clock+1)) (by simp) (fun p hp=>?_) (h _ _ (tagsEs_push ht h2 hs hb))
  simp [execOp,hp,hm,hx,hy,Instr.mapUpdate,run_underlying hu,MapKept.run_getObj_map hr,MapKept.run_checkKey hk hik,MapKept.run_findKey hk h1,MapKept.run_setObj_map _ hr,Result.andThen,mapSet]
 ·have hj:es[j]?=some e0:=by simpa using h2
  refine opw_skip (w':=mapSet w r (es.modify j fun e=>{ e with key:=.int .u32 (k:Int),val:=.slice base bs.length cap }) clock) (by simp) (fun p hp=>?_) (h _ _ (tagsEs_modify ht hj h3 hs hb))
  simp [execOp,hp,hm,hx,hy,Instr.mapUpdate,run_underlying hu,MapKept.run_getObj_map hr,MapKept.run_checkKey hk hik,MapKept.run_findKey hk h1,hj,h3,MapKept.run_keyThatStays hik,MapKept.run_setObj_map _ hr,Result.andThen,mapSet]
end
end Go.Proofs.YtdnpafdgglpagaaGreatDoor.K
namespace Go.Proofs.YtdnpafdgglpagaaGreatDoor.K
open Go Go.RowKit Go.Proofs.YtdnpafdgglpagaaGreatDoor.T
attribute [local simp] eTm eCo pNo gTp gTn qv qcall vop iop
set_option linter.unusedVariables false
set_option linter.unusedSimpArgs false
set_option maxHeartbeats 2000000
def sc_TSet (T0 T1:Nat):SC:=.seq (.seq (.reg [mv 6 0,nilc 7 6,fa 8 T0 7 0,ld 9 T1 8,⟨some 10,.binOp .eql T1 (.tmp 9) (.const (.map none)) T1,none⟩]) (.cond (.tmp 10) (.reg [mv 11 0,⟨some 12,.makeMap T1 none,none⟩,nilc 13 11,fa 14 T0 13 0,⟨none,.store T1 (.tmp 14) (.tmp 12),none⟩]) (.skip))) (.reg [mv 15 0,nilc 16 15,fa 17 T0 16 0,ld 18 T1 17,mv 19 1,mv 20 2,⟨none,.mapUpdate T1 (.tmp 18) (.tmp 19) (.tmp 20),none⟩])
def sc_ReadTags (T0 T1 T2 F0 F1 F2:Nat):SC:=.seq (.reg [⟨some 2,.alloc T0,none⟩]) (.seq (.reg [⟨some 3,.alloc T0,none⟩]) (.seq (.seq (.reg [mv 7 0,cal 8 F0 [7],asg 4 8]) (.block 0 (.loop (.seq (.seq (.reg [mv 9 4,⟨some 10,.binOp .gtr T1 (.tmp 9) (.const (.int .u32 0)) T1,none⟩]) (.cond (.tmp 10) (.skip) (.exit 0))) (.seq (.block 1 (.seq (.reg [mv 13 0,cal 14 F0 [13],mv 15 0,cal 16 F0 [15],asg 5 14,asg 6 16]) (.reg [mv 17 5,mv 18 0,mv 19 6,⟨some 20,.convert T1 T2 (.tmp 19),none⟩,cal 21 F1 [18,20],cal 22 F2 [3,17,21]]))) (.reg [mv 11 4,⟨some 12,.binOp .sub T1 (.tmp 11) (.const (.int .u32 1)) T1,none⟩,asg 4 12])))))) (.seq (.reg [ld 23 T0 3,⟨none,.store T0 (.tmp 2) (.tmp 23),none⟩]) (.ret))))
theorem MapV.frame {w w':World} {lo tb:Nat} {S:Option Nat} {u:List (Nat × Bytes)} {m:Option Nat} (h:MapV w lo tb S u m) (hb:∀ k,lo<=k->k < w.heap.size->w'.heap[k]?=w.heap[k]?) (hS:∀ sb,S=some sb->w'.heap[sb]?=w.heap[sb]?):MapV w' lo tb S u m:=by
 rcases h with h | ⟨r,es,clock,h1,h2,h3,h4,hne,h5,h6,h7⟩
 ·exact .inl h
 ·refine .inr ⟨r,es,clock,h1,h2,h3,by rw [hb r h2 (Array.getElem?_eq_some_iff.1 h4).1];exact h4,hne,h5,h6,fun e he x hx hk=>?_⟩
  obtain ⟨base,cap,q1,q2⟩:=h7 e he x hx hk
  exact ⟨base,cap,q1,bytesAt_keep q2 fun k a hF ha v hv=>by rw [World.cell?_of_block (ha ▸ hS k hF)];exact hv⟩
theorem SetF.below {w w':World} {lo tb:Nat} {S:Option Nat} {u:List (Nat × Bytes)} {m:Option Nat} (h:SetF tb m w w') (hlo:lo<=tb) (hw:lo<=w.heap.size) (hm:MapV w lo tb S u m):Below lo w w' :=
 ⟨h.os,h.tape,h.output,h.size,fun k hk=>h.block k (by omega) (by omega) fun e=>by
  rcases hm with ⟨e2,-⟩ | ⟨r,es,clock,e2,h2,-⟩
  ·rw [e2] at e;cases e
  ·rw [e2] at e;cases e;omega⟩
section
variable {P:Program} {R:RTy} {f:FuncId} {fn:Func}
theorem ret_cellAgg {Rr:Ending->World->Prop} {a:Act} {w:World} {r T b:Nat} {cs:List Value} (hr:fn.results=#[.cell r T]) (hT:aggB P T cs.length=true) (hx:getT a r=.pointer (some ⟨b,0,none⟩)) (hc:∀ j v,cs[j]?=some v->w.cell? ⟨b,j,none⟩=some v) (hd:a.defers=[]) (hR:Rr (.returned (.agg cs.toArray)) w):bodyPost P fn Rr .ret a w:=by
 refine ⟨hd,.agg cs.toArray,?_,hR⟩
 obtain ⟨i,hi,hs,ha⟩:=agg_of (w:=w) hT
 have hl:=run_loadCells_list (P:=P) w ⟨b,0,none⟩ cs (fun j v hv=>by rw [add_none,Nat.zero_add];exact hc j v hv)
 have hx':a.tmps[r]?.getD undef=.pointer (some ⟨b,0,none⟩):=by simpa [getT,Array.getD_eq_getD_getElem?] using hx
 simp [results,hr,hx',asAddr,loadVar,ha,sizeOf,typeInfo,hi,hs,hl]
theorem set_self {cs:Array Value} {q:Nat} {v:Value} (h:cs[q]?=some v):cs.setIfInBounds q v=cs:=by
 apply Array.ext
 ·simp
 ·intro j h1 h2
  rw [Array.getElem_setIfInBounds]
  split
  ·rename_i e;subst e;exact (Array.getElem?_eq_some_iff.1 h).2.symm
  ·rfl
theorem setTag_ne (t:Nat × Bytes) (u:List (Nat × Bytes)):setTag t u ≠ []:=by
 cases u with
 | nil=>simp [setTag]
 | cons x r=>simp only [setTag];split <;> (try split) <;> simp
theorem tSet_ok {T0 T1 : Nat} (hT : mapU P T1 = true) (hf0 : fieldOff P T0 0 = some 0) (hf : P.funcs[f]? = some fn) (hb : fn.body.map strip = some (sc_TSet T0 T1)) (hnm : (fn.name == "runtime.NumGoroutine") = false) (hn : fn.ntmps = 21) (hr : fn.results = #[]) : SetC P f := by
 refine ⟨fnOK_of hf hb hnm,fun w tb q lo k cap cs E S m u base bs hlo hS hrow hq hm hsu hbs=>?_⟩
 have h1:=(mapU_of hT).1
 refine fCa hf hb hn (by simp) fun a0 hs hd ha=>?_
 have h0:=ha 0 _ rfl
 have g1:=ha 1 _ rfl
 have g2:=ha 2 _ rfl
 simp only [List.getElem_toArray,List.getElem_cons_zero,List.getElem_cons_succ] at h0 g1 g2
 have hcell:w.cell? ⟨tb,q,none⟩=some (.map m):=by rw [cell_of_row _ _ _ _ _ _ hrow];exact hq
 have hql:q < cs.size:=(Array.getElem?_eq_some_iff.1 hq).1
 have htl:tb < w.heap.size:=(Array.getElem?_eq_some_iff.1 hrow).1
 refine wSq (wSq (wRg ?_))
 iterate 4 (apply ops_1;(focus (simp (disch:=(try simp only [sPu]);omega) [h0,hf0,h1,hcell];try rfl)))
 refine oNo rfl (opw_mapNil (m:=m) hT (by simp (disch:=(try simp only [sPu]);omega)) (oNi ?_))
 simp only [Exit.then]
 refine wCd (t:=m.isNone) (by simp (disch:=(try simp only [sPu]);omega)) ?_
 have last:∀ (a:Act) (w1:World) (r clock:Nat) (es:Array MapEntry),a.tmps.size=21->a.defers=[]->getT a 0=.pointer (some ⟨tb,q,none⟩)->getT a 1=.int .u32 (k:Int)->getT a 2=.slice base bs.length cap ->
   w1.heap[tb]?=some (.cells (cs.setIfInBounds q (.map (some r))) E (0,0))->lo<=r->r ≠ tb->w1.heap[r]?=some (.map es clock)->TagsEs w1 (fun k=>S=some k) es clock u->BytesAt w1 (fun k=>S=some k) base bs->SetF tb m w w1->lo<=w1.heap.size->(∀ k,k < w.heap.size->k ≠ tb->w1.heap[k]?=w.heap[k]?)->(r < w.heap.size->m=some r) ->
   (SC.reg [mv 15 0,nilc 16 15,fa 17 T0 16 0,ld 18 T1 17,mv 19 1,mv 20 2,⟨none,.mapUpdate T1 (.tmp 18) (.tmp 19) (.tmp 20),none⟩]).wp P (bodyPost P fn (fun e w'=>e=.returned (.tuple #[])/\SetF tb m w w' /\
  ∃ m',w'.heap[tb]?=some (.cells (cs.setIfInBounds q (.map m')) E (0,0))/\MapV w' lo tb S (setTag (k,bs) u) m'/\(m'=m∨∃ r,m'=some r/\w.heap.size<=r))) a w1:=by
  intro a w1 r clock es p1 p2 p3 p4 p5 p6 p7 p8 p9 p10 p11 p12 p13 p14 p15
  have hcell1:w1.cell? ⟨tb,q,none⟩=some (.map (some r)):=by rw [cell_of_row _ _ _ _ _ _ p6];simp [hql]
  refine wRg ?_
  iterate 6 (apply ops_1;(focus (simp (disch:=(try simp only [sPu]);omega) [p3,p4,p5,hf0,h1,hcell1];try rfl)))
  refine oNo rfl (opw_mapUpdate (r:=r) (k:=k) (es:=es) (F:=fun k=>S=some k) (u:=u) (base:=base) (cap:=cap) (bs:=bs) hT (by simp (disch:=(try simp only [sPu]);omega)) (by simp (disch:=(try simp only [sPu]);omega) [p4]) (by simp (disch:=(try simp only [sPu]);omega) [p5]) p9 p10 hsu p11 fun es' clock' ht=>oNi ?_)
  rw [pNo]
  refine ⟨by simp only [dPu];exact p2,.tuple #[],by simp [results,hr],rfl,⟨p12.os,p12.tape,p12.output,by simpa [mapSet] using p12.size,fun k hk h2 h3=>?_⟩,some r,?_,.inr ⟨r,es',clock',rfl,p7,p8,mapSet_at p9,setTag_ne _ _,ht.1,ht.2.1,fun e he x hx hk=>?_⟩,?_⟩
  ·rw [mapSet_other (fun e=>h3 (by rw [e];exact p15 (by omega)))]
   exact p14 k hk h2
  ·rw [mapSet_other (Ne.symm p8)]
   exact p6
  ·obtain ⟨b2,c2,q1,q2⟩:=ht.2.2 e he x hx hk
   exact ⟨b2,c2,q1,bytesAt_keep q2 fun k a hF ha v hv=>by
    rw [World.cell?_of_block (mapSet_other (w:=w1) (by have:=(hS k hF).1;omega))]
    exact hv⟩
  ·by_cases hr:r < w.heap.size
   ·exact .inl (p15 hr).symm
   ·exact .inr ⟨r,rfl,by omega⟩
 cases m with
 | none =>
  simp only [Option.isNone_none,if_true]
  have hu:u=[]:=by
   rcases hm with h | ⟨r,es,clock,h,-⟩
   ·exact h.2
   ·cases h
  subst hu
  refine wRg ?_
  iterate 1 (apply ops_1;(focus (simp (disch:=(try simp only [sPu]);omega) [h0];try rfl)))
  refine oNo rfl (opw_makeMap ?_)
  have hnew:=heap_alloc_new w (.map #[] 0)
  have hrow2:(w.alloc (.map #[] 0)).heap[tb]?=some (.cells cs E (0,0)):=by rw [Below.heap_alloc _ _ _ htl];exact hrow
  iterate 2 (apply ops_1;(focus (simp (disch:=(try simp only [sPu]);omega) [h0,hf0];try rfl)))
  refine ops_stR (b:=tb) (i:=q) (v:=.map (some w.heap.size)) h1 (by simp (disch:=(try simp only [sPu]);omega)) (by simp (disch:=(try simp only [sPu]);omega)) rfl hrow2 hql (oNi ?_)
  simp only [Exit.then]
  refine last _ _ w.heap.size 0 #[] (by simp [sPu,hs]) (by simp [dPu,hd]) (by simp (disch:=(try simp only [sPu]);omega) [h0]) (by simp (disch:=(try simp only [sPu]);omega) [g1]) (by simp (disch:=(try simp only [sPu]);omega) [g2]) ?_ hlo (by omega) ?_ ⟨by simp,MapKept.stamped_empty 0,fun e he=>by simp at he⟩ ?_ ?_ (by simp;omega) ?_ (fun h=>by omega)
  ·exact setRow_heap _ _ _ (cs.setIfInBounds q (.map (some w.heap.size))) _ _ hrow2
  ·rw [setRow_other _ _ _ _ (by omega)]
   exact hnew
  ·refine bytesAt_keep hbs fun k a hF ha v hv=>?_
   have:=hS k hF
   rw [World.cell?_of_block (w':=(w.alloc (.map #[] 0)).setRow tb _) (w:=w) (by rw [setRow_other _ _ _ _ (by omega)];exact Below.heap_alloc _ _ _ (by omega))]
   exact hv
  ·exact ⟨rfl,rfl,rfl,by simp,fun k hk h2 _=>by rw [setRow_other _ _ _ _ h2];exact Below.heap_alloc _ _ _ hk⟩
  ·intro k hk h2
   rw [setRow_other _ _ _ _ h2]
   exact Below.heap_alloc _ _ _ hk
 | some r =>
  simp only [Option.isNone_some,Bool.false_eq_true,if_false]
  refine wSk ?_
  simp only [Exit.then]
  rcases hm with h | ⟨r',es,clock,h,q1,q2,q3,q5,q4⟩
  ·cases h.1
  ·cases h
   exact last _ w r clock es (by simp [sPu,hs]) (by simp [dPu,hd]) (by simp (disch:=(try simp only [sPu]);omega) [h0]) (by simp (disch:=(try simp only [sPu]);omega) [g1]) (by simp (disch:=(try simp only [sPu]);omega) [g2]) (by rw [hrow];congr 1;congr 1;exact (set_self hq).symm) q1 q2 q3 q4 hbs ⟨rfl,rfl,rfl,Nat.le_refl _,fun _ _ _ _=>rfl⟩ hlo (fun _ _ _=>rfl) (fun _=>rfl)
end
theorem after_bind {α:Type} {st:Option Bytes} {p:Rd α}:after st p=(st.bind p).map (·.2):=by
 cases st <;> rfl
theorem tagN_step {st:Option Bytes} {n k:Nat} {s:Int} {x:Bytes} {acc:List (Nat × Bytes)} (h1:∀ b y r,st=some b->pUv b=some (y,r)->k=y) (h2:∀ b (y:Nat) r,after st pUv=some b->pUv b=some (y,r)->s=(y:Int)) (h3:∀ b y r,after (after st pUv) pUv=some b->pSpan s b=some (y,r)->x=y) :
  st.bind (pTagN (n+1) acc)=(after (after (after st pUv) pUv) (pSpan s)).bind (pTagN n (setTag (k,x) acc)):=by
 cases st with
 | none=>rfl
 | some b =>
  cases hp:pUv b with
  | none =>
   have e1:after (some b) pUv=none:=after_no hp
   rw [e1]
   simp [pTagN,rThen,hp,after]
  | some z =>
   obtain ⟨y,r⟩:=z
   have e1:after (some b) pUv=some r:=after_ok hp
   obtain rfl:=h1 b y r rfl hp
   rw [e1] at h2 h3 ⊢
   cases hp2:pUv r with
   | none =>
    have e2:after (some r) pUv=none:=after_no hp2
    rw [e2]
    simp [pTagN,rThen,hp,hp2,after]
   | some z2 =>
    obtain ⟨y2,r2⟩:=z2
    have e2:after (some r) pUv=some r2:=after_ok hp2
    obtain rfl:=h2 r y2 r2 rfl hp2
    rw [e2] at h3 ⊢
    cases hp3:pSpan (y2:Int) r2 with
    | none =>
     rw [after_no hp3]
     simp [pTagN,rThen,hp,hp2,hp3]
    | some z3 =>
     obtain ⟨y3,r3⟩:=z3
     obtain rfl:=h3 r2 y3 r3 rfl hp3
     rw [after_ok hp3]
     simp [pTagN,rThen,hp,hp2,hp3]
section
variable {P:Program} {R:RTy} {f:FuncId} {fn:Func}
structure TLoop (P:Program) (TR:Nat) (T0:Nat) (w:World) (S:Option Nat) (rb:Nat) (st:Option Bytes) (a:Act) (w':World):Prop where
 size:a.tmps.size=24
 defers:a.defers=[]
 rd:getT a 0=.pointer (some ⟨rb,0,none⟩)
 res:getT a 2=.pointer (some ⟨w.heap.size,0,none⟩)
 tag:getT a 3=.pointer (some ⟨w.heap.size+1,0,none⟩)
 only:Only rb w w'
 heap:w.heap.size+2<=w'.heap.size
 row2:w'.heap[w.heap.size]?=some (.cells #[.map none] T0 (0,0))
 ex:∃ (n:Nat) (acc:List (Nat × Bytes)) (m:Option Nat) (st':Option Bytes),getT a 4=.int .u32 (n:Int)/\n < 4294967296/\RdAt TR w' S rb st'/\w'.heap[w.heap.size+1]?=some (.cells #[.map m] T0 (0,0))/\MapV w' (w.heap.size+1) (w.heap.size+1) S acc m/\Sorted acc/\st.bind (pTags true)=st'.bind (pTagN n acc)
def tMu (a:Act) (_:World):Nat:=match getT a 4 with
 | .int _ n=>n.toNat
 | _=>0
theorem rTagsFn_ok {TR gb T0 T1 T2 F0 F1 F2:Nat} (hm:aggB P T0 1=true) (hz:∃ i z,P.info? T0=some i/\i.zero=some z/\z.cells=#[.map none]) (h1k:intK P T1=some .u32) (h2k:intK P T2=some .i64)
  (hU:RC P TR gb F0 pUv (fun v=>∃ n:Nat,n < 4294967296/\v=.int .u32 (n:Int)) (fun _ _ n v=>v=.int .u32 (n:Int))) (hSp:SpC P TR F1) (hSet:SetC P F2)
  (hf : P.funcs[f]? = some fn) (hb : fn.body.map strip = some (sc_ReadTags T0 T1 T2 F0 F1 F2)) (hnm : (fn.name == "runtime.NumGoroutine") = false) (hn : fn.ntmps = 24) (hr : fn.results = #[.cell 2 T0]) :
  RC P TR gb f (pTags true) (fun v=>∃ m,v=.agg #[m]/\m.oneCell'=true) (fun w F u v=>∃ m,v=.agg #[m]/\TagsV w F u m):=by
 refine ⟨fnOK_of hf hb hnm,fun w S rb st hgb hrd hsrc=>?_⟩
 obtain ⟨iz,z,hiz,hzz,hzc⟩:=hz
 have hrbl:rb < w.heap.size:=RdAt.lt hrd
 refine fCa hf hb hn (by simp) fun a0 hs hd ha=>?_
 have h0:=ha 0 _ rfl
 simp only [List.getElem_toArray,List.getElem_cons_zero,List.getElem_cons_succ] at h0
 refine wSq (wRg (oNo rfl (opw_alloc hiz hzz (oNi ?_))))
 simp only [Exit.then]
 refine wSq (wRg (oNo rfl (opw_alloc hiz hzz (oNi ?_))))
 simp only [Exit.then]
 rw [hzc]
 have hn1:=heap_alloc_new w (.cells #[.map none] T0)
 have hn2:=heap_alloc_new (w.alloc (.cells #[.map none] T0)) (.cells #[.map none] T0)
 have hsz1:(w.alloc (.cells #[.map none] T0)).heap.size=w.heap.size+1:=by simp
 rw [hsz1] at hn2 ⊢
 obtain ⟨w2,hw2⟩:∃ w2,w2=(w.alloc (.cells #[.map none] T0)).alloc (.cells #[.map none] T0):=⟨_,rfl⟩
 rw [<- hw2] at hn2 ⊢
 have hsz2:w2.heap.size=w.heap.size+2:=by rw [hw2];simp
 have hold:∀ k,k < w.heap.size->w2.heap[k]?=w.heap[k]?:=fun k hk=>by
  rw [hw2,Below.heap_alloc _ _ _ (by simp;omega),Below.heap_alloc _ _ _ hk]
 have hr2:w2.heap[w.heap.size]?=some (.cells #[.map none] T0 (0,0)):=by
  rw [hw2,Below.heap_alloc _ _ _ (by simp)]
  exact hn1
 have hon2:Only rb w w2:=by rw [hw2];exact ((Only.refl rb w).alloc _).alloc _
 have hrd2:RdAt TR w2 S rb st:=RdAt.frame hrd (hold _ hrbl) fun sb h=>hold _ (hsrc sb h).2
 have hsrc2:∀ (w':World),Only rb w w'->∀ sb,S=some sb->sb ≠ rb/\sb < w'.heap.size:=fun w' ho sb h=>⟨(hsrc sb h).1,Nat.lt_of_lt_of_le (hsrc sb h).2 ho.size⟩
 refine wSq (wSq (wRg ?_))
 iterate 1 (apply ops_1;(focus (simp (disch:=(try simp only [sPu]);omega) [h0];try rfl)))
 refine ops_call hU.1 (hU.2 w2 S rb st (by omega) hrd2 (hsrc2 w2 hon2)) (by simp (disch:=(try simp only [sPu]);omega) [h0]) ?_
 rintro e w3 ⟨v,rfl,q1,q2,⟨n,hnl,rfl⟩,q4⟩
 refine ⟨_,rfl,?_⟩
 repeat (apply ops_1;(focus (simp (disch:=(try simp only [sPu]);omega) ;try rfl)))
 refine oNi ?_
 simp only [Exit.then]
 refine wBk ?_
 refine wLp (TLoop P TR T0 w S rb st) tMu ?_ ?_
 ·refine ⟨by simp [sPu,hs],by simp [dPu,hd],by simp (disch:=(try simp only [sPu]);omega) [h0],by simp (disch:=(try simp only [sPu]);omega),by simp (disch:=(try simp only [sPu]);omega),hon2.trans q2,by have:=q2.size;omega,?_,n,[],none,after st pUv,by simp (disch:=(try simp only [sPu]);omega),hnl,q1,?_,.inl ⟨rfl,rfl⟩,List.Pairwise.nil,?_⟩
  ·rw [q2.block _ (by omega) (by omega)];exact hr2
  ·rw [q2.block _ (by omega) (by omega)];exact hn2
  ·cases st with
   | none=>rfl
   | some b =>
    cases hp:pUv b with
    | none=>simp [pTags,rThen,hp,after]
    | some zz =>
     obtain ⟨y,r⟩:=zz
     have:=q4 b y r rfl hp
     simp only [Value.int.injEq,true_and] at this
     obtain rfl:n=y:=by omega
     simp [pTags,rThen,hp,after]
 ·rintro a w4 ⟨p1,p2,p3,p4,p5,p6,p7,p8,n,acc,m,st',p9,p10,p11,p12,p13,p14,p15⟩
  have hmu:tMu a w4=n:=by simp [tMu,p9]
  refine wSq (wSq (wRg ?_))
  repeat (apply ops_1;(focus (simp (disch:=(try simp only [sPu]);omega) [p9];try rfl)))
  refine oNi (wCd (t:=decide ((n:Int) > 0)) (by simp (disch:=(try simp only [sPu]);omega)) ?_)
  by_cases h0n:n=0
  ·subst h0n
   rw [if_neg (by simp)]
   refine wXt ?_
   simp only [Exit.then,Exit.inBlock,if_true]
   have hcell:∀ j v,[Value.map m][j]?=some v->w4.cell? ⟨w.heap.size+1,0+j,none⟩=some v:=by
    intro j v hj
    rw [Nat.zero_add,cell_of_row _ _ _ _ _ _ p12]
    rw [<- List.getElem?_toArray] at hj
    exact hj
   refine wSq (wRg (oNo rfl (opw_load_agg (cs:=[.map m]) (b:=w.heap.size+1) (o:=0) hm (by simp (disch:=(try simp only [sPu]);omega) [p5]) hcell (oNo rfl (opw_store_agg (cs:=[.map m]) (cur:=#[.map none]) (b:=w.heap.size) (E:=T0) hm (by simp (disch:=(try simp only [sPu]);omega) [p4]) (by simp (disch:=(try simp only [sPu]);omega)) p8 rfl (by intro v hv;simp at hv;subst hv;rfl) (oNi ?_))))))
   rw [pNo]
   simp only [Exit.then]
   refine wRt ?_
   have hfin:=setRow_heap w4 w.heap.size _ [Value.map m].toArray _ _ p8
   have hoth:∀ k,k ≠ w.heap.size->(w4.setRow w.heap.size [Value.map m].toArray).heap[k]?=w4.heap[k]?:=fun k hk=>setRow_other _ _ _ _ hk
   have hst':after st (pTags true)=st':=by
    rw [after_bind,p15]
    cases st' <;> simp [pTagN,rOk]
   refine ret_cellAgg (cs:=[.map m]) (b:=w.heap.size) hr hm (by simp (disch:=(try simp only [sPu]);omega) [p4]) ?_ (by simp [dPu,p2]) ⟨_,rfl,?_,?_,⟨.map m,rfl,rfl⟩,fun b x r hst hp=>⟨.map m,rfl,?_⟩⟩
   ·intro j v hj
    rw [cell_of_row _ _ _ _ _ _ hfin,List.getElem?_toArray]
    exact hj
   ·rw [hst']
    exact RdAt.frame p11 (hoth _ (by omega)) fun sb h=>hoth _ (by have:=(hsrc sb h).2;omega)
   ·exact p6.own (Nat.le_refl _) _
   ·have hacc:x=acc:=by
     rw [hst] at p15
     simp only [Option.bind_some,hp] at p15
     cases st' with
     | none=>cases p15
     | some r' =>
      simp only [Option.bind_some,pTagN,rOk,Option.some.injEq,Prod.mk.injEq] at p15
      exact p15.1
    subst hacc
    have hmv:=p13.frame (w':=w4.setRow w.heap.size [Value.map m].toArray) (fun k h1 _=>hoth k (by omega)) (fun sb h=>hoth _ (by have:=(hsrc sb h).2;omega))
    rcases hmv with ⟨rfl,rfl⟩ | ⟨r',es,clock,rfl,e2,e3,e4,ene,e5,e6,e7⟩
    ·exact .inl ⟨rfl,rfl⟩
    ·refine .inr ⟨r',es,clock,rfl,.inr ⟨by omega,(Array.getElem?_eq_some_iff.1 e4).1⟩,e4,ene,e5,e6,fun e he x hx hk=>?_⟩
     obtain ⟨b2,c2,k1,k2⟩:=e7 e he x hx hk
     exact ⟨b2,c2,k1,bytesAt_F k2 fun k hk=>.inl hk⟩
  ·rw [if_pos (by simp;omega)]
   refine wSk ?_
   simp only [Exit.then]
   obtain ⟨n',rfl⟩:∃ n',n=n'+1:=⟨n - 1,by omega⟩
   refine wSq (wBk (wSq (wRg ?_)))
   iterate 1 (apply ops_1;(focus (simp (disch:=(try simp only [sPu]);omega) [p3];try rfl)))
   refine ops_call hU.1 (hU.2 w4 S rb st' (by omega) p11 (hsrc2 w4 p6)) (by simp (disch:=(try simp only [sPu]);omega) [p3]) ?_
   rintro e w5 ⟨v,rfl,k1,k2,⟨k,hkl,rfl⟩,k4⟩
   refine ⟨_,rfl,?_⟩
   iterate 1 (apply ops_1;(focus (simp (disch:=(try simp only [sPu]);omega) [p3];try rfl)))
   refine ops_call hU.1 (hU.2 w5 S rb _ (by have:=k2.size;omega) k1 (hsrc2 w5 (p6.trans k2))) (by simp (disch:=(try simp only [sPu]);omega) [p3]) ?_
   rintro e w6 ⟨v,rfl,l1,l2,⟨s,hsl,rfl⟩,l4⟩
   refine ⟨_,rfl,?_⟩
   repeat (apply ops_1;(focus (simp (disch:=(try simp only [sPu]);omega) ;try rfl)))
   refine oNi (wRg ?_)
   have hws:IntKind.i64.wrap (s:Int)=(s:Int):=wrap64 (by omega) (by omega)
   iterate 4 (apply ops_1;(focus (simp (disch:=(try simp only [sPu]);omega) [p3,h1k,h2k,hws];try rfl)))
   refine ops_call hSp.1 (hSp.2 w6 S rb _ (s:Int) l1 (hsrc2 w6 ((p6.trans k2).trans l2))) (by simp (disch:=(try simp only [sPu]);omega) [p3]) ?_
   rintro e w7 ⟨S',base,cap,x,rfl,m1,m2,m3,m4,m5,-⟩
   refine ⟨_,rfl,?_⟩
   have ho7:Only rb w4 w7:=(k2.trans l2).trans m2
   have hrow7:w7.heap[w.heap.size+1]?=some (.cells #[.map m] T0 (0,0)):=by rw [ho7.block _ (by omega) (by omega)];exact p12
   have hmv7:MapV w7 (w.heap.size+1) (w.heap.size+1) S acc m:=p13.frame (fun k h1 h2=>ho7.block k h2 (by omega)) fun sb h=>ho7.block sb (by have:=(hsrc sb h).2;omega) (hsrc sb h).1
   have hb7:BytesAt w7 (fun k=>S=some k) base x:=by
    rcases m5 with rfl | rfl
    ·exact .inl m3.2
    ·exact bytesAt_src m3 fun sb h=>h
   refine ops_call hSet.1 (hSet.2 w7 (w.heap.size+1) 0 (w.heap.size+1) k cap #[.map m] T0 S m acc base x (by have:=ho7.size;omega) (fun sb h=>by have:=(hsrc sb h).2;omega) hrow7 rfl hmv7 p14 hb7) (by simp (disch:=(try simp only [sPu]);omega) [p5]) ?_
   rintro e w8 ⟨rfl,n0,m',n4',n5,-⟩
   have n1:=n0.below (Nat.le_refl _) (by have:=ho7.size;omega) hmv7
   have n4:w8.heap[w.heap.size+1]?=some (.cells #[.map m'] T0 (0,0)):=n4'
   refine ⟨_,rfl,oNi ?_⟩
   simp only [Exit.then,Exit.inBlock]
   have hwn:IntKind.u32.wrap (n':Int)=(n':Int):=wrap_uN (k:=.u32) rfl (n:=n') (by simp only [IntKind.bits];omega)
   refine wRg ?_
   repeat (apply ops_1;(focus (simp (disch:=(try simp only [sPu]);omega) [p9,hwn];try rfl)))
   refine oNi ?_
   have ho8:Only rb w w8:=by
    have ho:=p6.trans ho7
    exact ⟨n1.os.trans ho.os,n1.tape.trans ho.tape,n1.output.trans ho.output,Nat.le_trans ho.size n1.size,fun k hk hr=>(n1.block k (by omega)).trans (ho.block k hk hr)⟩
   refine ⟨⟨by simp [sPu,p1],by simp [dPu,p2],by simp (disch:=(try simp only [sPu]);omega) [p3],by simp (disch:=(try simp only [sPu]);omega) [p4],by simp (disch:=(try simp only [sPu]);omega) [p5],ho8,by have:=n1.size;have:=ho7.size;omega,?_,n',setTag (k,x) acc,m',after (after (after st' pUv) pUv) (pSpan (s:Int)),by simp (disch:=(try simp only [sPu]);omega),by omega,?_,n4,n5,setTag_sorted p14,?_⟩,?_⟩
   ·rw [n1.block _ (by omega),ho7.block _ (by omega) (by omega)]
    exact p8
   ·exact RdAt.frame m1 (n1.block _ (by omega)) fun sb h=>n1.block _ (by have:=(hsrc sb h).2;omega)
   ·rw [p15]
    refine tagN_step (fun b y r hb hp=>?_) (fun b y r hb hp=>?_) (fun b y r hb hp=>(m4 b y r hb hp).1)
    ·have:=k4 b y r hb hp
     simp only [Value.int.injEq,true_and] at this
     omega
    ·have:=l4 b y r hb hp
     simp only [Value.int.injEq,true_and] at this
     omega
   ·rw [hmu]
    simp only [tMu]
    simp (disch:=(try simp only [sPu]);omega)
end
end Go.Proofs.YtdnpafdgglpagaaGreatDoor.K
namespace Go.Proofs.YtdnpafdgglpagaaGreatDoor.K
open Go Go.RowKit Go.Proofs.YtdnpafdgglpagaaGreatDoor.T
set_option linter.unusedVariables false
set_option linter.unusedSimpArgs false
section
variable {X:RX} {a a':Act} {w w':World} {st:Option Bytes} {Q:Exit->Act->World->Prop}
theorem RInv.only {st':Option Bytes} (hX:X.ok) (h:RInv X a w st) (ho:Only X.rb w w') (hr:RdAt X.TR w' X.S X.rb st'):RInv X a w' st' :=
 ⟨h.size,h.defers,h.uns,h.rd,h.ver,h.flex,hr,fun sb hsb=>⟨(h.src sb hsb).1,Nat.lt_of_lt_of_le (h.src sb hsb).2 ho.size⟩,h.below.trans (ho.below hX.hB h.heap),Nat.le_trans h.heap ho.size,h.lo⟩
theorem rGet_ok {α:Type} {f v t:Nat} {p:Rd α} {ty:Value->Prop} {ok:World->(Nat->Prop)->α->Value->Prop} (hX:X.ok) (hf:RC X.P X.TR X.gb f p ty ok) (hi:RInv X a w st) (hv:X.v0<=v) (hvN:v < X.N) (ht:X.v0<=t) (htN:t < X.N)
  (hQ:∀ a' w' y,RInv X a' w' (after st p)->getT a' v=y->(∀ s,s ≠ v->s ≠ t->getT a' s=getT a s)->Only X.rb w w'->ty y->(∀ b x r,st=some b->p b=some (x,r)->ok w' (NewF X.S w w') x y)->Q .normal a' w') :
  (rGet X.c f v t).wp X.P Q a w:=by
 have hsz:=hi.size
 refine wRg (ops_cal hf.1 (R:=fun e w'=>∃ y,e=.returned y/\RdAt X.TR w' X.S X.rb (after st p)/\Only X.rb w w'/\ty y/\∀ b x r,st=some b->p b=some (x,r)->ok w' (NewF X.S w w') x y) ?_ ?_)
 ·have:=hf.2 w X.S X.rb st (Nat.lt_of_lt_of_le hX.hgb hi.heap) hi.at_ hi.src
  rw [show (([X.c.rd].map (getT a)).toArray:Array Value)=#[.pointer (some ⟨X.rb,0,none⟩)] by simp [hi.rd]]
  exact this
 ·rintro e w' ⟨y,rfl,h1,h2,h3,h4⟩
  refine ⟨y,rfl,ops_asg (oNi ?_)⟩
  refine hQ _ w' y ((hi.only hX h2 h1).act (by simp [sPu]) (by simp [dPu]) fun s hs=>?_) ?_ ?_ h2 h3 h4
  ·rw [gTn (by omega),gTn (by omega)]
  ·rw [gTp (by rw [sPu];omega),gTp (by omega)]
  ·intro s h1 h2
   rw [gTn h1,gTn h2]
theorem rStore_ok {p x t S f T b o off:Nat} {y:Value} {cs:Array Value} {E:TypeId} (hX:X.ok) (hi:RInv X a w st) (hp:getT a p=.pointer (some ⟨b,o,none⟩)) (hx:getT a x=y) (hy:y.oneCell'=true) (hpt:p < t) (hxt:x < t) (ht:X.v0<=t) (htN:t+4<=X.N)
  (hS:fieldB X.P S f off=true) (hT:oneB X.P T=true) (hrow:w.heap[b]?=some (.cells cs E (0,0))) (hlt:o+off < cs.size) (hb:b ≠ X.rb) (hbS:X.S ≠ some b) (hB:X.B<=b)
  (hQ:∀ a',RInv X a' (w.setRow b (cs.setIfInBounds (o+off) y)) st->(∀ s,s < t->getT a' s=getT a s)->Q .normal a' (w.setRow b (cs.setIfInBounds (o+off) y))) :
  (rStore p x t S f T).wp X.P Q a w:=by
 have hsz:=hi.size
 refine wRg (ops_mv (ops_mv (ops_nilc (ad:=⟨b,o,none⟩) ?_ (ops_fa hS (b:=b) (o:=o) ?_ (oNo rfl (opw_store_one (ad:=⟨b,o+off,none⟩) (v:=y) (v0:=cs[o+off]) hT ?_ ?_ hy ?_ ?_ (oNi ?_)))))))
 ·rw [gTn (by omega),gTp (by omega)]
  exact hp
 ·rw [gTp (by simp only [sPu];omega)]
 ·rw [eTm,gTp (by simp only [sPu];omega)]
 ·rw [eTm,gTn (by omega),gTn (by omega),gTp (by simp only [sPu];omega),gTn (by omega)]
  exact hx
 ·rw [cell_of_row _ _ _ _ _ _ hrow]
  exact Array.getElem?_eq_getElem hlt
 ·simp [World.frozen?,hrow]
 ·rw [pNo,setCell_eq_setRow _ _ _ _ _ _ _ hrow]
  refine hQ _ ((hi.setRow hb hbS hB _).act (by simp [sPu]) (by simp [dPu]) fun s hs=>?_) fun s hs=>?_
  ·rw [gTn (by omega),gTn (by omega),gTn (by omega),gTn (by omega)]
  ·rw [gTn (by omega),gTn (by omega),gTn (by omega),gTn (by omega)]
theorem cset_ok {v:Nat} {x:Value} (hi:RInv X a w st) (hv:X.v0<=v) (hvN:v < X.N) (hQ:∀ a',RInv X a' w st->getT a' v=x->(∀ s,s ≠ v->getT a' s=getT a s)->Q .normal a' w):(cset v x).wp X.P Q a w:=by
 have hsz:=hi.size
 refine wRg (oNo rfl (opw_assign (oNi ?_)))
 rw [eCo]
 refine hQ _ (hi.act (by simp [sPu]) (by simp [dPu]) fun s hs=>?_) ?_ ?_
 ·rw [gTn (by omega)]
 ·rw [gTp (by omega)]
 ·intro s h1
  rw [gTn h1]
theorem mvCond_ok {x t:Nat} {b:Bool} {y z:SC} (hi:RInv X a w st) (ht:X.v0<=t) (htN:t < X.N) (hx:getT a x=.bool b)
  (hQ:∀ a',RInv X a' w st->(∀ s,s ≠ t->getT a' s=getT a s)->(if b then y else z).wp X.P Q a' w):(SC.seq (.reg [mv t x]) (.cond (.tmp t) y z)).wp X.P Q a w:=by
 have hsz:=hi.size
 refine wSq (wRg (ops_mv (oNi ?_)))
 refine wCd (t:=b) (by rw [eTm,gTp (by omega)];exact hx) ?_
 refine hQ _ (hi.act (by simp [sPu]) (by simp [dPu]) fun s hs=>?_) fun s h1=>?_
 ·rw [gTn (by omega)]
 ·rw [gTn h1]
def okRP (I:RIds) (c:Ctx) (nul:Bool) (k:PK):Bool :=
 match k with
 | .str=>if nul then (c.never || I.rCNStr != 0) && I.rNStr != 0 else (c.never || I.rCStr != 0) && I.rStr != 0
 | .bytes=>if nul then c.never && I.rNBytes != 0 else (c.never || I.rCBytes != 0) && I.rBytes != 0
 | .uuid=>!nul && I.rUuid != 0
 | k=>!nul && rNum I k != 0
theorem rPrim_ok {k:PK} {nul:Bool} {v t:Nat} {rest:SC} (hX:X.ok) (hk:k ≠ .uuid) (hok:okRP X.I X.c nul k=true) (hi:RInv X a w st) (hv:X.v0<=v) (hvT:v < X.T0) (ht:X.T0<=t) (htN:t+rPrimT X.c nul k<=X.N)
  (hQ:∀ a' w' y,RInv X a' w' (after st (pPrim X.flex nul k))->getT a' v=y->(∀ s,s ≠ v->s < t->getT a' s=getT a s)->Only X.rb w w'->tyP nul k y ->
   (∀ b x r,st=some b->pPrim X.flex nul k b=some (x,r)->okP nul k w' (NewF X.S w w') x y)->rest.wp X.P Q a' w'):(rPrim X.I X.c nul k v t rest).wp X.P Q a w:=by
 have hten:=hX.ten
 have kr:=hX.kr
 have get:∀ {f:Nat} {p:Rd Tree} (a1:Act) (t':Nat) (Q':Exit->Act->World->Prop),p=pPrim X.flex nul k->RC X.P X.TR X.gb f p (tyP nul k) (okP nul k)->RInv X a1 w st->(∀ s,s ≠ v->s < t->getT a1 s=getT a s)->t<=t'->t' < X.N ->
   (∀ a' w',rest.wp X.P Q a' w'->Q' .normal a' w')->(rGet X.c f v t').wp X.P Q' a1 w:=by
  intro f p a1 t' Q' hp hf hi1 hs1 ht1 ht2 hQ'
  subst hp
  refine rGet_ok hX hf hi1 hv (by omega) (by omega) ht2 fun a' w' y h1 h2 h3 h4 h5 h6=>hQ' _ _ (hQ a' w' y h1 h2 (fun s hs1' hs2=>?_) h4 h5 h6)
  rw [h3 s hs1' (by omega)]
  exact hs1 s hs1' hs2
 have flex9:X.c.never=false->∀ a1,(∀ s,s ≠ v->s < t->getT a1 s=getT a s)->getT a1 9=.bool X.flex:=fun hn a1 h=>(h 9 (by omega) (by omega)).trans (hi.flex hn)
 have uns2:∀ a1,(∀ s,s ≠ v->s < t->getT a1 s=getT a s)->getT a1 2=.bool false:=fun a1 h=>(h 2 (by omega) (by omega)).trans hi.uns
 unfold rPrim
 unfold rPrimT at htN
 by_cases hs:k=.str
 ·subst hs
  rw [if_pos rfl] at htN ⊢
  unfold rTextT at htN
  refine wSq (cset_ok hi hv (by omega) fun a1 hi1 _ hs1=>?_)
  have hs1':∀ s,s ≠ v->s < t->getT a1 s=getT a s:=fun s h1 _=>hs1 s h1
  refine wSq ?_
  unfold rText okRP at *
  cases hn:X.c.never with
  | true =>
   have hfl:=hX.never hn
   simp only [hn,if_true] at htN hok ⊢
   cases nul with
   | true =>
    simp only [if_true,Bool.true_or,Bool.true_and,bne_iff_ne,ne_eq] at hok ⊢
    refine mvCond_ok hi1 (by omega) (by omega) (uns2 a1 hs1') fun a2 hi2 hs2=>?_
    rw [if_neg (by simp)]
    exact get a2 (t+2) _ (by rw [hfl]) (kr.nstr hok) hi2 (fun s h1 h2=>(hs2 s (by omega)).trans (hs1' s h1 h2)) (by omega) (by omega) fun _ _ h=>h
   | false =>
    simp only [Bool.false_eq_true,if_false,Bool.true_or,Bool.true_and,bne_iff_ne,ne_eq] at hok ⊢
    refine mvCond_ok hi1 (by omega) (by omega) (uns2 a1 hs1') fun a2 hi2 hs2=>?_
    rw [if_neg (by simp)]
    exact get a2 (t+2) _ (by rw [hfl]) (kr.str hok) hi2 (fun s h1 h2=>(hs2 s (by omega)).trans (hs1' s h1 h2)) (by omega) (by omega) fun _ _ h=>h
  | false =>
   simp only [hn,Bool.false_eq_true,if_false,Bool.false_or,Bool.and_eq_true,bne_iff_ne,ne_eq] at htN hok ⊢
   cases nul with
   | true =>
    simp only [if_true,Bool.and_eq_true,bne_iff_ne,ne_eq] at hok ⊢
    refine mvCond_ok hi1 (by omega) (by omega) (flex9 hn a1 hs1') fun a2 hi2 hs2=>?_
    have hs2':∀ s,s ≠ v->s < t->getT a2 s=getT a s:=fun s h1 h2=>(hs2 s (by omega)).trans (hs1' s h1 h2)
    cases hfl:X.flex with
    | true =>
     rw [if_pos rfl]
     refine mvCond_ok hi2 (by omega) (by omega) (uns2 a2 hs2') fun a3 hi3 hs3=>?_
     rw [if_neg (by simp)]
     exact get a3 (t+3) _ (by rw [hfl]) (kr.cnstr hok.1) hi3 (fun s h1 h2=>(hs3 s (by omega)).trans (hs2' s h1 h2)) (by omega) (by omega) fun _ _ h=>h
    | false =>
     rw [if_neg (by simp)]
     refine mvCond_ok hi2 (by omega) (by omega) (uns2 a2 hs2') fun a3 hi3 hs3=>?_
     rw [if_neg (by simp)]
     exact get a3 (t+6) _ (by rw [hfl]) (kr.nstr hok.2) hi3 (fun s h1 h2=>(hs3 s (by omega)).trans (hs2' s h1 h2)) (by omega) (by omega) fun _ _ h=>h
   | false =>
    simp only [Bool.false_eq_true,if_false,Bool.and_eq_true,bne_iff_ne,ne_eq] at hok ⊢
    refine mvCond_ok hi1 (by omega) (by omega) (uns2 a1 hs1') fun a2 hi2 hs2=>?_
    have hs2':∀ s,s ≠ v->s < t->getT a2 s=getT a s:=fun s h1 h2=>(hs2 s (by omega)).trans (hs1' s h1 h2)
    rw [if_neg (by simp)]
    refine mvCond_ok hi2 (by omega) (by omega) (flex9 hn a2 hs2') fun a3 hi3 hs3=>?_
    cases hfl:X.flex with
    | true =>
     rw [if_pos rfl]
     exact get a3 (t+5) _ (by rw [hfl]) (kr.cstr hok.1) hi3 (fun s h1 h2=>(hs3 s (by omega)).trans (hs2' s h1 h2)) (by omega) (by omega) fun _ _ h=>h
    | false =>
     rw [if_neg (by simp)]
     exact get a3 (t+6) _ (by rw [hfl]) (kr.str hok.2) hi3 (fun s h1 h2=>(hs3 s (by omega)).trans (hs2' s h1 h2)) (by omega) (by omega) fun _ _ h=>h
 ·rw [if_neg hs] at htN ⊢
  by_cases hb:k=.bytes/\X.c.never=false
  ·obtain ⟨rfl,hn⟩:=hb
   rw [if_pos ⟨rfl,hn⟩] at htN ⊢
   unfold okRP at hok
   rw [hn] at hok
   cases nul with
   | true=>simp at hok
   | false =>
    simp only [Bool.false_eq_true,if_false,Bool.false_or,Bool.and_eq_true,bne_iff_ne,ne_eq] at hok
    refine wSq (cset_ok hi hv (by omega) fun a1 hi1 _ hs1=>?_)
    have hs1':∀ s,s ≠ v->s < t->getT a1 s=getT a s:=fun s h1 _=>hs1 s h1
    refine wSq ?_
    refine mvCond_ok hi1 (by omega) (by omega) (flex9 hn a1 hs1') fun a2 hi2 hs2=>?_
    have hs2':∀ s,s ≠ v->s < t->getT a2 s=getT a s:=fun s h1 h2=>(hs2 s (by omega)).trans (hs1' s h1 h2)
    cases hfl:X.flex with
    | true =>
     rw [if_pos rfl]
     exact get a2 (t+1) _ (by rw [hfl]) (kr.cbytes hok.1) hi2 hs2' (by omega) (by omega) fun _ _ h=>h
    | false =>
     rw [if_neg (by simp)]
     exact get a2 (t+2) _ (by rw [hfl]) (kr.bytes hok.2) hi2 hs2' (by omega) (by omega) fun _ _ h=>h
  ·rw [if_neg hb] at htN ⊢
   by_cases hb2:k=.bytes/\nul=false
   ·obtain ⟨rfl,rfl⟩:=hb2
    rw [if_pos ⟨rfl,rfl⟩]
    have hn:X.c.never=true:=by simpa using hb
    have hfl:=hX.never hn
    unfold okRP at hok
    simp only [hn,Bool.false_eq_true,if_false,Bool.true_or,Bool.true_and,bne_iff_ne,ne_eq] at hok
    exact wSq (get a t _ (by rw [hfl]) (kr.bytes hok) hi (fun _ _ _=>rfl) (by omega) (by omega) fun _ _ h=>h)
   ·rw [if_neg hb2]
    refine wSq ?_
    have hnum:RC X.P X.TR X.gb (rNum X.I k) (pPrim X.flex nul k) (tyP nul k) (okP nul k):=by
     unfold okRP at hok
     cases k <;> simp only [Bool.and_eq_true,bne_iff_ne,ne_eq,Bool.not_eq_true'] at hok
     case str=>exact absurd rfl hs
     case uuid=>exact absurd rfl hk
     case bytes =>
      have hnn:nul=true:=by simpa using hb2
      subst hnn
      have hn:X.c.never=true:=by simpa using hb
      have hfl:=hX.never hn
      simp only [hn,if_true,Bool.true_and,bne_iff_ne,ne_eq] at hok
      rw [hfl]
      exact kr.nbytes hok
     all_goals
      obtain ⟨rfl,h2⟩:=hok
      exact kr.num _ rfl h2
    exact get a t _ rfl hnum hi (fun _ _ _=>rfl) (by omega) (by omega) fun _ _ h=>h
end
end Go.Proofs.YtdnpafdgglpagaaGreatDoor.K
