/- Generic texts: R1 T2 T3 T7 T4 R2 R12 R13. No condition. -/
import Derived.Test.YtdnpafdgglpagaaGreatDoorN4
namespace Go.Proofs.YtdnpafdgglpagaaGreatDoor.K
open Go Go.Proofs.YtdnpafdgglpagaaGreatDoor.T
set_option linter.unusedVariables false
set_option linter.unusedSimpArgs false
structure RIds where
 tRd:Nat
 tTags:Nat
 tI8:Nat
 tI16:Nat
 tI32:Nat
 tBool:Nat
 rBool:Nat
 rI8:Nat
 rI16:Nat
 rI32:Nat
 rI64:Nat
 rU16:Nat
 rUuid:Nat
 rStr:Nat
 rUStr:Nat
 rCStr:Nat
 rUCStr:Nat
 rNStr:Nat
 rUNStr:Nat
 rCNStr:Nat
 rUCNStr:Nat
 rBytes:Nat
 rCBytes:Nat
 rNBytes:Nat
 rArr:Nat
 rCArr:Nat
 rOk:Nat
 rCompl:Nat
 rTags:Nat
 rUvar:Nat
 rSpan:Nat
 tSet:Nat
 tU32:Nat
 tInt:Nat
 tErr:Nat
def rGet (c:Ctx) (f v t:Nat):SC:=.reg [cal t f [c.rd],asg v t]
def rStore (p x t S f T:Nat):SC:=.reg [mv t p,mv (t+1) x,nilc (t+2) t,fa (t+3) S (t+2) f,⟨none,.store T (.tmp (t+3)) (.tmp (t+1)),none⟩]
def cset (v:Nat) (x:Value):SC:=.reg [⟨some v,.assign (.const x),none⟩]
def rTextT (c:Ctx):Nat:=if c.never then 3 else 7
def rText (I:RIds) (c:Ctx) (nul:Bool) (v t:Nat):SC :=
 if nul then
  if c.never then .seq (.reg [mv t 2]) (.cond (.tmp t) (rGet c I.rUNStr v (t+1)) (rGet c I.rNStr v (t+2)))
  else .seq (.reg [mv t 9]) (.cond (.tmp t) (.seq (.reg [mv (t+1) 2]) (.cond (.tmp (t+1)) (rGet c I.rUCNStr v (t+2)) (rGet c I.rCNStr v (t+3))))
   (.seq (.reg [mv (t+4) 2]) (.cond (.tmp (t+4)) (rGet c I.rUNStr v (t+5)) (rGet c I.rNStr v (t+6)))))
 else
  if c.never then .seq (.reg [mv t 2]) (.cond (.tmp t) (rGet c I.rUStr v (t+1)) (rGet c I.rStr v (t+2)))
  else .seq (.reg [mv t 2]) (.cond (.tmp t) (.seq (.reg [mv (t+1) 9]) (.cond (.tmp (t+1)) (rGet c I.rUCStr v (t+2)) (rGet c I.rUStr v (t+3))))
   (.seq (.reg [mv (t+4) 9]) (.cond (.tmp (t+4)) (rGet c I.rCStr v (t+5)) (rGet c I.rStr v (t+6)))))
def emptyS:Value:=.string ⟨#[]⟩
def rNum (I:RIds):PK->Nat
 | .bool=>I.rBool | .i8=>I.rI8 | .i16=>I.rI16 | .i32=>I.rI32 | .i64=>I.rI64 | .u16=>I.rU16 | _=>I.rNBytes
def rPrimT (c:Ctx) (nul:Bool) (k:PK):Nat:=if k=.str then rTextT c else if k=.bytes/\c.never=false then 3 else 1
def rPrim (I:RIds) (c:Ctx) (nul:Bool) (k:PK) (v t:Nat) (rest:SC):SC :=
 if k=.str then .seq (cset v (if nul then .pointer none else emptyS)) (.seq (rText I c nul v t) rest)
 else if k=.bytes/\c.never=false then .seq (cset v (.slice none 0 0)) (.seq (.seq (.reg [mv t 9]) (.cond (.tmp t) (rGet c I.rCBytes v (t+1)) (rGet c I.rBytes v (t+2)))) rest)
 else if k=.bytes/\nul=false then .seq (rGet c I.rBytes v t) rest
 else .seq (rGet c (rNum I k) v t) rest
def rTagsL (I:RIds) (c:Ctx) (S p:Nat) (tags:Option (Nat × Nat)) (t:Nat):List SC :=
 match tags with
 | none=>[]
 | some (f,_)=>[.seq (.reg [mv t 9]) (.cond (.tmp t) (.reg [mv (t+1) p,cal (t+2) I.rTags [c.rd],nilc (t+3) (t+1),fa (t+4) S (t+3) f,⟨none,.store I.tTags (.tmp (t+4)) (.tmp (t+2)),none⟩]) .skip)]
def rTagsT (tags:Option (Nat × Nat)):Nat:=if tags.isSome then 5 else 0
def rLenT (c:Ctx):Nat:=if c.never then 1 else 3
def rLen (I:RIds) (c:Ctx) (l t:Nat):SC :=
 if c.never then rGet c I.rArr l t else .seq (.reg [mv t 9]) (.cond (.tmp t) (rGet c I.rCArr l (t+1)) (rGet c I.rArr l (t+2)))
def rNilT (h:Hd):Nat:=if 0<=h.null then 7 else 0
def rNilL (I:RIds) (c:Ctx) (h:Hd) (T a l t:Nat):List SC :=
 if 0<=h.null then
  [.seq (.reg [mv t c.ver,bin .lss (t+1) I.tI16 t (.const (.int .i16 h.null)),mv (t+2) (t+1),⟨some (t+3),.move (.tmp l),some (2,false)⟩,
    ⟨some (t+4),.binOp .eql I.tI32 (.tmp (t+3)) (.const (.int .i32 0)) I.tI32,some (2,false)⟩,⟨some (t+5),.pick (.tmp (t+2)) (.const (.bool true)) (.tmp (t+4)),none⟩])
   (.cond (.tmp (t+5)) (.reg [⟨some (t+6),.buildSlice T 0 #[],none⟩,asg a (t+6)]) .skip)]
 else []
def rOkC (I:RIds) (c:Ctx) (t:Nat):SC :=
 .seq (.reg [cal t I.rOk [c.rd],⟨some (t+1),.unOp .not I.tBool (.tmp t),none⟩]) (.cond (.tmp (t+1)) (.seq (.reg [cal (t+2) I.rCompl [c.rd],asg 6 (t+2)]) .ret) .skip)
def rCut (T a t:Nat):SC:=.reg [mv t a,⟨some (t+1),.slice T (.tmp t) none (some (.const (.int .i64 0))) none,none⟩,asg a (t+1)]
def rMake (I:RIds) (T a l t:Nat):SC :=
 .seq (.reg [mv t l,bin .gtr (t+1) I.tI32 t (.const (.int .i32 0))])
  (.cond (.tmp (t+1)) (.reg [mv (t+2) a,mv (t+3) l,⟨some (t+4),.call ⟨.builtin .append,#[.tmp (t+2),.tmp (t+3)],#[T,I.tI32]⟩,none⟩,asg a (t+4)]) .skip)
def rLoop (I:RIds) (l i t et b:Nat) (body:List SC):SC :=
 .seq (cset i (.int .i32 0)) (.block b (.loop (.seq (.seq (.reg [mv t i,mv (t+1) l,⟨some (t+2),.binOp .lss I.tI32 (.tmp t) (.tmp (t+1)) I.tI32,none⟩]) (.cond (.tmp (t+2)) .skip (.exit b)))
  (.seq (.block (b+1) (seqs body)) (.reg [mv (t+3) i,⟨some (t+4),.binOp .add I.tI32 (.tmp (t+3)) (.const (.int .i32 1)) I.tI32,none⟩,asg i (t+4)])))))
def rKnDef (I:RIds) (c:Ctx) (S p f v t:Nat):SC :=
 .dreg [mv (t+8) p,nilc (t+9) (t+8),fa (t+10) S (t+9) f,mv (t+11) (v+1),cal (t+12) I.rUvar [c.rd],⟨some (t+13),.convert I.tU32 I.tInt (.tmp (t+12)),none⟩,cal (t+14) I.rSpan [c.rd,t+13],cal (t+15) I.tSet [t+10,t+11,t+14]]
  [[],[0],[1],[],[],[4],[5,4],[2,3,6,6]]
def rKnRd (I:RIds) (c:Ctx) (v t:Nat):SC :=
 .reg [cal (t+18) I.rUvar [c.rd],⟨some (t+19),.convert I.tU32 I.tInt (.tmp (t+18)),none⟩,cal (t+20) I.rSpan [c.rd,t+19],⟨some (t+21),.build I.tRd #[(0,.tmp (t+20))],none⟩,⟨some (v+2),.alloc I.tRd,none⟩,⟨none,.store I.tRd (.tmp (v+2)) (.tmp (t+21)),none⟩]
def rKnEnd (I:RIds) (c:Ctx) (x t:Nat):List SC :=
 [.reg [cal t I.rCompl [c.rd],asg x t],.seq (.reg [mv (t+1) x,⟨some (t+2),.binOp .neq I.tErr (.tmp (t+1)) (.const .nilIface) I.tErr,none⟩]) (.cond (.tmp (t+2)) (.seq (.reg [mv (t+3) x,asg 6 (t+3)]) .ret) .skip)]
def rKnSC (I:RIds) (c:Ctx) (S p f v t b:Nat) (body:List SC):SC :=
 .seq (.reg [mv t 9]) (.cond (.tmp t) (.seq (.reg [cal (t+1) I.rUvar [c.rd],asg v (t+1)]) (.block b (.loop (.seq (.seq (.reg [mv (t+2) v,bin .gtr (t+3) I.tU32 (t+2) (.const (.int .u32 0))]) (.cond (.tmp (t+3)) .skip (.exit b)))
  (.seq (.block (b+1) (.seq (.reg [cal (t+6) I.rUvar [c.rd],asg (v+1) (t+6)]) (.seq (.reg [mv (t+7) (v+1)]) (.block (b+2) (.seq (.reg [bin .eql (t+17) I.tU32 (t+7) (.const (.int .u32 0)),asg (t+16) (t+17)]) (.cond (.tmp (t+16)) (seqs (rKnRd I c v t :: body)) (rKnDef I c S p f v t)))))))
   (.reg [mv (t+4) v,bin .sub (t+5) I.tU32 (t+4) (.const (.int .u32 1)),asg v (t+5)])))))) .skip)
mutual
def rV:Hd->Ty->Nat
 | h,.prim _=>if h.enum then 3 else 1
 | _,.list _ _ _ of=>4+rVE of
 | h,.struct _ _ _ _ fs kn=>(if 0<=h.null then 3 else 2)+rVs fs+rVk kn
def rVE:Ty->Nat
 | .prim _=>1
 | .list _ _ _ _=>0
 | .struct _ _ _ _ fs kn=>2+rVs fs+rVk kn
def rVs:Fs->Nat
 | .nil=>0
 | .cons h ty r=>rV h ty+rVs r
def rVk:Fs->Nat
 | .nil=>0
 | .cons h ty _=>4+rV h ty
end
mutual
def rB:Ty->Nat
 | .prim _=>0
 | .list _ _ _ of=>2+rB of
 | .struct _ _ _ _ fs kn=>rBs fs+rBk kn
def rBs:Fs->Nat
 | .nil=>0
 | .cons _ ty r=>rB ty+rBs r
def rBk:Fs->Nat
 | .nil=>0
 | .cons _ ty _=>3+rB ty
end
mutual
def rET (c:Ctx):Ty->Nat
 | .prim k=>if k=.uuid then 1+4 else rPrimT c false k+4
 | .list _ _ _ _=>0
 | .struct _ _ _ tags fs kn=>3+2+1+rFT c fs+rKT c tags kn
def rVT (c:Ctx) (h:Hd):Ty->Nat
 | .prim k=>if k=.uuid then 1+4 else if h.enum then 3+4 else rPrimT c (decide (0<=h.null)) k+4
 | .list _ _ _ of=>4+1+rLenT c+rNilT h+3+2+5+5+rET c of+1+4
 | .struct _ _ _ tags fs kn=>(if 0<=h.null then 6+4+4+2+1 else 3+2+1)+rFT c fs+rKT c tags kn
def rFT (c:Ctx):Fs->Nat
 | .nil=>0
 | .cons h ty r=>vTmps h+rVT c h ty+rFT c r
def rKT (c:Ctx) (tags:Option (Nat × Nat)):Fs->Nat
 | .nil=>rTagsT tags
 | .cons h ty _=>26+rVT c h ty
end
def rvCond (I:RIds) (c:Ctx) (h:Hd) (t:Nat) (body:SC):SC :=
 if h.from_=0/\h.to < 0 then body
 else if h.to < 0 then
  .seq (.reg [mv t c.ver,bin .geq (t+1) I.tI16 t (.const (.int .i16 h.from_))]) (.cond (.tmp (t+1)) body .skip)
 else
  .seq (.reg [mv t c.ver,bin .geq (t+1) I.tI16 t (.const (.int .i16 h.from_)),mv (t+2) (t+1),
   ⟨some (t+3),.move (.tmp c.ver),some (2,true)⟩,⟨some (t+4),.binOp .leq I.tI16 (.tmp (t+3)) (.const (.int .i16 h.to)) I.tI16,some (2,true)⟩,
   ⟨some (t+5),.pick (.tmp (t+2)) (.tmp (t+4)) (.const (.bool false)),none⟩]) (.cond (.tmp (t+5)) body .skip)
mutual
def rElem (I:RIds) (c:Ctx) (T E a i v t b:Nat):Ty->List SC
 | .prim k =>
  if k=.uuid then
   [.reg [cal t I.rUuid [c.rd],⟨some v,.alloc E,none⟩,⟨none,.store E (.tmp v) (.tmp t),none⟩],
    .reg [mv (t+1) a,mv (t+2) i,ld (t+3) E v,⟨some (t+4),.indexAddr T (.tmp (t+1)) (.tmp (t+2)),none⟩,⟨none,.store E (.tmp (t+4)) (.tmp (t+3)),none⟩]]
  else
   [rPrim I c false k v t (.reg [mv (t+rPrimT c false k) a,mv (t+rPrimT c false k+1) i,mv (t+rPrimT c false k+2) v,
    ⟨some (t+rPrimT c false k+3),.indexAddr T (.tmp (t+rPrimT c false k)) (.tmp (t+rPrimT c false k+1)),none⟩,⟨none,.store E (.tmp (t+rPrimT c false k+3)) (.tmp (t+rPrimT c false k+2)),none⟩])]
 | .list _ _ _ _=>[.other]
 | .struct S _ d tags fs kn =>
  [.reg [mv t a,mv (t+1) i,⟨some (t+2),.indexAddr T (.tmp t) (.tmp (t+1)),none⟩,asg v (t+2)],.reg [mv (t+3) v,cal (t+4) d [t+3]],.reg [mv (t+5) v,asg (v+1) (t+5)]] ++
   (rFs I c S (v+1) (v+2) (t+6) b fs ++ rTagsK I c S (v+1) tags (v+2+rVs fs) (t+6+rFT c fs) (b+rBs fs) kn)
def rValL (I:RIds) (c:Ctx) (S p:Nat) (h:Hd) (v t b:Nat):Ty->List SC
 | .prim k =>
  [if k=.uuid then
   .seq (.reg [cal t I.rUuid [c.rd],⟨some v,.alloc h.typ,none⟩,⟨none,.store h.typ (.tmp v) (.tmp t),none⟩])
    (.reg [mv (t+1) p,ld (t+2) h.typ v,nilc (t+3) (t+1),fa (t+4) S (t+3) h.idx,⟨none,.store h.typ (.tmp (t+4)) (.tmp (t+2)),none⟩])
  else if h.enum then
   .seq (cset v (.int .i8 0)) (.seq (.seq (rGet c (rNum I k) (v+1) t) (.reg [mv (t+1) (v+1),asg v (t+1)])) (.seq (.reg [mv (t+2) v,asg (v+2) (t+2)]) (rStore p (v+2) (t+3) S h.idx h.typ)))
  else rPrim I c (decide (0<=h.null)) k v t (rStore p v (t+rPrimT c (decide (0<=h.null)) k) S h.idx h.typ)]
 | .list T E _ of =>
  [.reg [mv t p,nilc (t+1) t,fa (t+2) S (t+1) h.idx,ld (t+3) T (t+2),asg v (t+3)],.reg [mv (t+4) v,asg (v+1) (t+4)],cset (v+2) (.int .i32 0),rLen I c (v+2) (t+5)] ++
   (rNilL I c h T (v+1) (v+2) (t+5+rLenT c) ++
   [rOkC I c (t+5+rLenT c+rNilT h),rCut T (v+1) (t+8+rLenT c+rNilT h),rMake I T (v+1) (v+2) (t+10+rLenT c+rNilT h),
    rLoop I (v+2) (v+3) (t+15+rLenT c+rNilT h) (rET c of) b (rElem I c T E (v+1) (v+3) (v+4) (t+20+rLenT c+rNilT h) (b+2) of),
    .reg [mv (t+20+rLenT c+rNilT h+rET c of) (v+1),asg v (t+20+rLenT c+rNilT h+rET c of)],
    rStore p v (t+21+rLenT c+rNilT h+rET c of) S h.idx T])
 | .struct S' _ d tags fs kn =>
  if 0<=h.null then
   [.seq (rGet c I.rI8 v t) (.seq (.reg [mv (t+1) v,bin .neq (t+2) I.tI8 (t+1) (.const (.int .i8 (-1))),mv (t+3) (t+2),⟨some (t+4),.call ⟨.value (.func I.rOk),#[.tmp c.rd],#[]⟩,some (2,true)⟩,
     ⟨some (t+5),.pick (.tmp (t+3)) (.tmp (t+4)) (.const (.bool false)),none⟩])
    (.cond (.tmp (t+5)) (seqs ([.reg [mv (t+6) p,⟨some (t+7),.alloc S',none⟩,nilc (t+8) (t+6),fa (t+9) S (t+8) h.idx,⟨none,.store h.typ (.tmp (t+9)) (.tmp (t+7)),none⟩],
     .reg [mv (t+10) p,nilc (t+11) (t+10),fa (t+12) S (t+11) h.idx,ld (t+13) h.typ (t+12),asg (v+1) (t+13)],.reg [mv (t+14) (v+1),cal (t+15) d [t+14]],.reg [mv (t+16) (v+1),asg (v+2) (t+16)]] ++
     (rFs I c S' (v+2) (v+3) (t+17) b fs ++ rTagsK I c S' (v+2) tags (v+3+rVs fs) (t+17+rFT c fs) (b+rBs fs) kn))) .skip))]
  else
   [.reg [mv t p,nilc (t+1) t,fa (t+2) S (t+1) h.idx,asg v (t+2)],.reg [mv (t+3) v,cal (t+4) d [t+3]],.reg [mv (t+5) v,asg (v+1) (t+5)]] ++
    (rFs I c S' (v+1) (v+2) (t+6) b fs ++ rTagsK I c S' (v+1) tags (v+2+rVs fs) (t+6+rFT c fs) (b+rBs fs) kn)
def rFs (I:RIds) (c:Ctx) (S p v t b:Nat):Fs->List SC
 | .nil=>[]
 | .cons h ty r =>
  rvCond I c h t (seqs (rValL I c S p h v (t+vTmps h) b ty)) ::
   rFs I c S p (v+rV h ty) (t+vTmps h+rVT c h ty) (b+rB ty) r
def rTagsK (I:RIds) (c:Ctx) (S p:Nat) (tags:Option (Nat × Nat)) (v t b:Nat):Fs->List SC
 | .nil=>rTagsL I c S p tags t
 | .cons h ty _=>[rKnSC I c S p (tagF tags) v t b (rValL I ⟨c.ver,c.flex,c.never,v+2⟩ S p h (v+3) (t+22) (b+3) ty ++ rKnEnd I ⟨c.ver,c.flex,c.never,v+2⟩ (v+3+rV h ty) (t+22+rVT c h ty))]
end
def rS:Option Int->Nat
 | none=>9
 | some _=>10
def rCtx:Option Int->Ctx
 | none=>⟨8,9,true,7⟩
 | some _=>⟨8,9,false,7⟩
def rFlexL (I:RIds) (t:Nat):Option Int->List SC
 | none=>[]
 | some n=>[.reg [mv (t+9) 8,bin .geq (t+10) I.tI16 (t+9) (.const (.int .i16 n)),asg 9 (t+10)],.reg [mv (t+11) 9]]
def rT1 (t:Nat):Option Int->Nat
 | none=>t+9
 | some _=>t+12
def rTop (I:RIds) (S d t:Nat) (flex:Option Int) (tags:Option (Nat × Nat)) (fs kn:Fs):SC :=
 seqs ([cset 6 .nilIface,.reg [mv t 0,cal (t+1) d [t]],
  .reg [mv (t+2) 1,⟨some (t+3),.build I.tRd #[(0,.tmp (t+2))],none⟩,⟨some 7,.alloc I.tRd,none⟩,⟨none,.store I.tRd (.tmp 7) (.tmp (t+3)),none⟩],
  .reg [mv (t+4) 0,nilc (t+5) (t+4),fa (t+6) S (t+5) 0,ld (t+7) I.tI16 (t+6),asg 8 (t+7)],.reg [mv (t+8) 8]] ++
  (rFlexL I t flex ++ ([.reg [mv (rT1 t flex) 0,asg (rS flex) (rT1 t flex)]] ++
   ((rFs I (rCtx flex) S (rS flex) (rS flex+1) (rT1 t flex+1) 0 fs ++ rTagsK I (rCtx flex) S (rS flex) tags (rS flex+1+rVs fs) (rT1 t flex+1+rFT (rCtx flex) fs) (rBs fs) kn) ++
   [.reg [cal (rT1 t flex+1+rFT (rCtx flex) fs+rKT (rCtx flex) tags kn) I.rCompl [7],asg 6 (rT1 t flex+1+rFT (rCtx flex) fs+rKT (rCtx flex) tags kn)],.ret]))))
end Go.Proofs.YtdnpafdgglpagaaGreatDoor.K
namespace Go.Proofs.YtdnpafdgglpagaaGreatDoor.T
set_option linter.unusedVariables false
set_option linter.unusedSimpArgs false
abbrev Rd (α:Type):=Bytes->Option (α × Bytes)
def rOk {α:Type} (x:α):Rd α:=fun b=>some (x,b)
def rNo {α:Type}:Rd α:=fun _=>none
def rThen {α β:Type} (p:Rd α) (f:α->Rd β):Rd β:=fun b=>(p b).bind fun x=>f x.1 x.2
def unfix:Bytes->Nat
 | []=>0
 | u :: r=>u.toNat * 256 ^ r.length+unfix r
def sgn (k n:Nat):Int:=if n < 256 ^ k / 2 then (n:Int) else (n:Int) - (256 ^ k:Nat)
def pFix (k:Nat):Rd Nat:=fun b=>if b.length < k then none else some (unfix (b.take k),b.drop k)
def pInt (k:Nat):Rd Int:=rThen (pFix k) fun n=>rOk (sgn k n)
def pSpan (l:Int):Rd Bytes:=fun b=>if (b.length:Int) < l∨l < 0 then none else some (b.take l.toNat,b.drop l.toNat)
def pUvGo:Nat->Nat->Rd Nat
 | _,_,[]=>none
 | 0,m,u :: r=>if u.toNat<=15 then some (u.toNat * m,r) else none
 | k+1,m,u :: r=>if u.toNat < 128 then some (u.toNat * m,r) else (pUvGo k (m * 128) r).map fun x=>(u.toNat % 128 * m+x.1,x.2)
def pUv:Rd Nat:=pUvGo 4 1
def pLen (flex:Bool):Rd Int :=
 rThen (if flex then rThen pUv fun n=>rOk (if n=2147483648 then 2147483647 else (if n < 2147483648 then (n:Int) else (n:Int) - 4294967296) - 1) else pInt 4)
  fun l b=>if (b.length:Int) < l then none else some (l,b)
def tN (n:Int):Tree:=.mk n [] false [] []
def tS (s:Bytes):Tree:=.mk 0 s false [] []
def tNull:Tree:=.mk 0 [] true [] []
def tL (l:List Tree):Tree:=.mk 0 [] false l []
def pCount (flex:Bool) (size:Nat):Rd Int:=if flex then rThen pUv fun n=>rOk ((n:Int) - 1) else pInt size
def pPrim (flex nul:Bool):PK->Rd Tree
 | .bool=>rThen (pFix 1) fun n=>rOk (tN (if n=0 then 0 else 1))
 | .u16=>rThen (pFix 2) fun n=>rOk (tN n)
 | .uuid=>rThen (pSpan 16) fun s=>rOk (tS s)
 | .str=>rThen (pCount flex 2) fun l=>if nul && decide (l < 0) then rOk tNull else rThen (pSpan l) fun s=>rOk (tS s)
 | .bytes=>rThen (pCount flex 4) fun l=>if nul && decide (l < 0) then rOk tNull else if !nul && decide (l=-1) then rOk (tS []) else rThen (pSpan l) fun s=>rOk (tS s)
 | k=>rThen (pInt k.width) fun n=>rOk (tN n)
def pMany {α:Type} (p:Rd α):Nat->Rd (List α)
 | 0=>rOk []
 | n+1=>rThen p fun x=>rThen (pMany p n) fun xs=>rOk (x :: xs)
def setTag (t:Nat × Bytes):List (Nat × Bytes)->List (Nat × Bytes)
 | []=>[t]
 | x :: r=>if x.1 < t.1 then x :: setTag t r else if x.1=t.1 then t :: r else t :: x :: r
def pTagN:Nat->List (Nat × Bytes)->Rd (List (Nat × Bytes))
 | 0,acc=>rOk acc
 | n+1,acc=>rThen pUv fun k=>rThen pUv fun s=>rThen (pSpan s) fun v=>pTagN n (setTag (k,v) acc)
def pTags (flex:Bool):Rd (List (Nat × Bytes)):=if flex then rThen pUv fun n=>pTagN n [] else rOk []
def nulAt (ver:Int) (h:Hd):Ty->Bool
 | .struct _ _ _ _ _ _=>decide (0<=h.null)
 | _=>decide (0<=h.null) && decide (h.null<=ver)
def pTagK (p:Rd Tree):Nat->Tree->List (Nat × Bytes)->Rd (List Tree × List (Nat × Bytes))
 | 0,k,acc=>rOk ([k],acc)
 | n+1,k,acc=>rThen pUv fun key=>rThen pUv fun sz=>rThen (pSpan sz) fun s=>if key=0 then (match p s with | none=>rNo | some x=>pTagK p n x.1 acc) else pTagK p n k (setTag (key,s) acc)
mutual
def pTy (ver:Int) (flex:Bool):Ty->Bool->Rd Tree
 | .prim k,nul=>pPrim flex nul k
 | .list _ _ _ of,nul=>rThen (pLen flex) fun l=>if nul && decide (l < 0) then rOk tNull else rThen (pMany (pTy ver flex of false) l.toNat) fun xs=>rOk (tL xs)
 | .struct _ _ _ _ fs kn,nul =>
  rThen (if nul then pInt 1 else rOk 0) fun p=>if nul && decide (p=-1) then rOk tNull else
   rThen (pFs ver flex fs) fun xs=>rThen (pKn ver flex kn) fun z=>rOk (.mk 0 [] false (xs ++ z.1) z.2)
def pFs (ver:Int) (flex:Bool):Fs->Rd (List Tree)
 | .nil=>rOk []
 | .cons h ty r=>rThen (if h.has ver then pTy ver flex ty (nulAt ver h ty) else rOk Tree.zero) fun x=>rThen (pFs ver flex r) fun xs=>rOk (x :: xs)
def pKn (ver:Int) (flex:Bool):Fs->Rd (List Tree × List (Nat × Bytes))
 | .nil=>rThen (pTags flex) fun u=>rOk ([],u)
 | .cons h ty _=>if flex then rThen pUv fun n=>pTagK (pTy ver flex ty false) n (dT h ty) [] else rOk ([dT h ty],[])
end
def Ext {α:Type} (p:Rd α):Prop:=∀ b x r c,p b=some (x,r)->p (b ++ c)=some (x,r ++ c)
section
variable {α β:Type}
theorem rThen_some {p:Rd α} {f:α->Rd β} {b r:Bytes} {y:β} (h:rThen p f b=some (y,r)):∃ x r1,p b=some (x,r1)/\f x r1=some (y,r):=by
 unfold rThen at h
 cases hp:p b with
 | none=>rw [hp] at h;simp at h
 | some z=>rw [hp] at h;exact ⟨z.1,z.2,rfl,h⟩
theorem rThen_of {p:Rd α} {f:α->Rd β} {b r1:Bytes} {x:α} (h:p b=some (x,r1)):rThen p f b=f x r1:=by simp [rThen,h]
theorem Ext.ok (x:α):Ext (rOk x):=fun b y r c h=>by simp only [rOk,Option.some.injEq,Prod.mk.injEq] at h ⊢;obtain ⟨rfl,rfl⟩:=h;simp
theorem Ext.then {p:Rd α} {f:α->Rd β} (hp:Ext p) (hf:∀ x,Ext (f x)):Ext (rThen p f):=by
 intro b y r c h
 obtain ⟨x,r1,h1,h2⟩:=rThen_some h
 rw [rThen_of (hp _ _ _ _ h1)]
 exact hf x _ _ _ _ h2
end
set_option maxHeartbeats 200000
theorem fixed_length (n:Int):∀ k,(fixed n k).length=k
 | 0=>rfl
 | k+1=>by simp [fixed,fixed_length n k]
theorem byteOf_nat (n:Int):(byteOf n).toNat=(n % 256).toNat:=by
 have h0:0<=n % 256:=Int.emod_nonneg _ (by decide)
 have h1:n % 256 < 256:=Int.emod_lt_of_pos _ (by decide)
 simp [byteOf]
 omega
theorem pow_pos256 (k:Nat):0 < (256:Int) ^ k:=Int.pow_pos (by decide)
theorem div_mod_pow (n:Int) (k:Nat):n / 256 ^ k % 256=n % 256 ^ (k+1) / 256 ^ k:=by
 have hp:=pow_pos256 k
 have e:(256:Int) ^ (k+1)=256 ^ k * 256:=Int.pow_succ _ _
 have h1:n % 256 ^ (k+1)=n+256 ^ k * (-(256 * (n / 256 ^ (k+1)))):=by
  have:=Int.mul_ediv_add_emod n (256 ^ (k+1))
  rw [e] at this ⊢
  have e2:(256:Int) ^ k * -(256 * (n / (256 ^ k * 256)))=-(256 ^ k * 256 * (n / (256 ^ k * 256))):=by
   rw [Int.mul_neg,Int.mul_assoc]
  omega
 rw [h1,Int.add_mul_ediv_left _ _ (by omega)]
 have h2:n / 256 ^ (k+1)=n / 256 ^ k / 256:=by rw [e,Int.ediv_ediv_of_nonneg (by omega)]
 rw [h2]
 omega
theorem fixed_mod {n m:Int}:∀ {k:Nat},n % 256 ^ k=m % 256 ^ k->fixed n k=fixed m k
 | 0,_=>rfl
 | k+1,h=>by
  have hd:n % 256 ^ k=m % 256 ^ k:=by
   have e:(256:Int) ^ (k+1)=256 ^ k * 256:=Int.pow_succ _ _
   have d:(256:Int) ^ k ∣ 256 ^ (k+1):=⟨256,e⟩
   rw [<- Int.emod_emod_of_dvd n d,<- Int.emod_emod_of_dvd m d,h]
  have hb:byteOf (n / 256 ^ k)=byteOf (m / 256 ^ k):=by
   unfold byteOf
   rw [div_mod_pow,div_mod_pow,h]
  simp [fixed,hb,fixed_mod hd]
theorem unfix_fixed (n:Int):∀ k,((unfix (fixed n k):Nat):Int)=n % 256 ^ k
 | 0=>by simp [fixed,unfix,Int.emod_one]
 | k+1=>by
  have hp:=pow_pos256 k
  have h0:0<=n / 256 ^ k % 256:=Int.emod_nonneg _ (by decide)
  simp only [fixed,unfix,fixed_length,byteOf_nat]
  rw [Int.natCast_add,Int.natCast_mul,unfix_fixed n k,Int.toNat_of_nonneg h0,div_mod_pow]
  have e:(256:Int) ^ (k+1)=256 ^ k * 256:=Int.pow_succ _ _
  have d:(256:Int) ^ k ∣ 256 ^ (k+1):=⟨256,e⟩
  rw [<- Int.emod_emod_of_dvd n d]
  have:=Int.mul_ediv_add_emod (n % 256 ^ (k+1)) (256 ^ k)
  have ec:((256 ^ k:Nat):Int)=(256:Int) ^ k:=by rw [Int.natCast_pow];rfl
  rw [ec,Int.mul_comm]
  exact this
theorem pFix_fixed (n:Int) (k:Nat) (rest:Bytes):pFix k (fixed n k ++ rest)=some ((n % 256 ^ k).toNat,rest):=by
 have hl:=fixed_length n k
 unfold pFix
 rw [if_neg (by rw [List.length_append];omega),List.take_append_of_le_length (by omega),List.drop_append_of_le_length (by omega)]
 have h:=unfix_fixed n k
 have e1:(fixed n k).take k=fixed n k:=List.take_of_length_le (by omega)
 have e2:(fixed n k).drop k=[]:=List.drop_of_length_le (by omega)
 rw [e1,e2,<- h]
 simp
theorem sgn_mod (k:Nat) (n:Nat):sgn k n % 256 ^ k=(n:Int) % 256 ^ k:=by
 unfold sgn
 split
 ·rfl
 ·have:((256 ^ k:Nat):Int)=(256:Int) ^ k:=by simp
  rw [this,Int.sub_emod_right]
theorem fixed_sgn (n:Int) (k:Nat):fixed (sgn k (n % 256 ^ k).toNat) k=fixed n k:=by
 refine fixed_mod ?_
 rw [sgn_mod,Int.toNat_of_nonneg (Int.emod_nonneg _ (by have:=pow_pos256 k;omega)),Int.emod_emod]
theorem pInt_fixed (n:Int) (k:Nat) (rest:Bytes):pInt k (fixed n k ++ rest)=some (sgn k (n % 256 ^ k).toNat,rest):=by
 unfold pInt
 rw [rThen_of (pFix_fixed n k rest)]
 rfl
theorem pInt_small {n:Nat} (k:Nat) (h:n < 256 ^ k / 2) (rest:Bytes):pInt k (fixed n k ++ rest)=some ((n:Int),rest):=by
 rw [pInt_fixed]
 have h2:(n:Int) % 256 ^ k=n:=by
  refine Int.emod_eq_of_lt (by omega) ?_
  have:((256 ^ k:Nat):Int)=(256:Int) ^ k:=by simp
  rw [<- this]
  omega
 rw [h2]
 simp only [Int.toNat_natCast,sgn,if_pos h]
theorem uvarint_le {n:Nat} (h:n<=127):uvarint n=[UInt8.ofNat n]:=by unfold uvarint;simp [h]
theorem uvarint_gt {n:Nat} (h:¬ n<=127):uvarint n=UInt8.ofNat (n % 128+128) :: uvarint (n / 128):=by rw [uvarint];simp [h]
theorem pUvGo_uvarint:∀ (k m n:Nat) (rest:Bytes),n < 16 * 128 ^ k->pUvGo k m (uvarint n ++ rest)=some (n * m,rest)
 | 0,m,n,rest,h=>by
  have hn:n < 16:=by simpa using h
  rw [uvarint_le (by omega)]
  simp only [List.cons_append,List.nil_append,pUvGo]
  rw [if_pos (by simp;omega)]
  have:(UInt8.ofNat n).toNat=n:=by simp;omega
  rw [this]
 | k+1,m,n,rest,h=>by
  by_cases hn:n<=127
  ·rw [uvarint_le hn]
   have:(UInt8.ofNat n).toNat=n:=by simp;omega
   simp only [List.cons_append,List.nil_append,pUvGo,this]
   rw [if_pos (by omega)]
  ·rw [uvarint_gt hn]
   have e:(UInt8.ofNat (n % 128+128)).toNat=n % 128+128:=by simp;omega
   simp only [List.cons_append,pUvGo,e]
   rw [if_neg (by omega)]
   have hlt:n / 128 < 16 * 128 ^ k:=by
    rw [Nat.div_lt_iff_lt_mul (by decide)]
    have:16 * 128 ^ (k+1)=16 * 128 ^ k * 128:=by rw [Nat.pow_succ,Nat.mul_assoc]
    omega
   rw [pUvGo_uvarint k (m * 128) (n / 128) rest hlt]
   simp only [Option.map_some,Option.some.injEq,Prod.mk.injEq,and_true]
   have e1:(n % 128+128) % 128=n % 128:=by omega
   have e2:n / 128 * (m * 128)=n / 128 * 128 * m:=by
    rw [Nat.mul_comm m 128,Nat.mul_assoc]
   rw [e1,e2,<- Nat.add_mul]
   congr 1
   omega
theorem pUv_uvarint {n:Nat} (h:n < 4294967296) (rest:Bytes):pUv (uvarint n ++ rest)=some (n,rest):=by
 unfold pUv
 rw [pUvGo_uvarint 4 1 n rest (by omega),Nat.mul_one]
theorem uvarint_pos (n:Nat):1<=(uvarint n).length:=by
 by_cases h:n<=127
 ·simp [uvarint_le h]
 ·simp [uvarint_gt h]
theorem pSpan_append (s rest:Bytes):pSpan (s.length:Int) (s ++ rest)=some (s,rest):=by
 unfold pSpan
 rw [if_neg (by simp;omega)]
 simp
theorem pCount_of {flex:Bool} {n size:Nat} (hn:n<=most) (hs:size=2∨size=4) (rest:Bytes):pCount flex size (counted flex false n size ++ rest)=some ((n:Int),rest):=by
 have hn':n<=32767:=hn
 cases flex
 ·simp only [pCount,counted,Bool.false_eq_true,if_false]
  exact pInt_small size (by rcases hs with rfl | rfl <;> simp <;> omega) rest
 ·simp only [pCount,counted,Bool.false_eq_true,if_false,if_true]
  rw [rThen_of (pUv_uvarint (by omega) rest)]
  simp only [rOk,Option.some.injEq,Prod.mk.injEq,and_true]
  omega
theorem pCount_null {flex:Bool} {n size:Nat} (hs:size=2∨size=4) (rest:Bytes):pCount flex size (counted flex true n size ++ rest)=some (-1,rest):=by
 cases flex
 ·simp only [pCount,counted,Bool.false_eq_true,if_false,if_true]
  rw [pInt_fixed]
  rcases hs with rfl | rfl <;> rfl
 ·simp only [pCount,counted,if_true]
  have:pUv ([0] ++ rest)=some (0,rest):=by simp [pUv,pUvGo]
  rw [rThen_of this]
  rfl
theorem pLen_of {flex:Bool} {n:Nat} (hn:n<=most) (rest:Bytes) (hr:n<=rest.length):pLen flex (counted flex false n 4 ++ rest)=some ((n:Int),rest):=by
 have hn':n<=32767:=hn
 unfold pLen
 have:(if flex then rThen pUv fun n=>rOk (if n=2147483648 then (2147483647:Int) else (if n < 2147483648 then (n:Int) else (n:Int) - 4294967296) - 1) else pInt 4) (counted flex false n 4 ++ rest)=some ((n:Int),rest):=by
  cases flex
  ·simp only [counted,Bool.false_eq_true,if_false]
   exact pInt_small 4 (by omega) rest
  ·simp only [counted,Bool.false_eq_true,if_false,if_true]
   rw [rThen_of (pUv_uvarint (by omega) rest),if_neg (by omega),if_pos (by omega)]
   simp only [rOk,Option.some.injEq,Prod.mk.injEq,and_true]
   omega
 rw [rThen_of this,if_neg (by omega)]
theorem pLen_null {flex:Bool} {n:Nat} (rest:Bytes):pLen flex (counted flex true n 4 ++ rest)=some (-1,rest):=by
 unfold pLen
 have:(if flex then rThen pUv fun n=>rOk (if n=2147483648 then (2147483647:Int) else (if n < 2147483648 then (n:Int) else (n:Int) - 4294967296) - 1) else pInt 4) (counted flex true n 4 ++ rest)=some (-1,rest):=by
  cases flex
  ·simp only [counted,Bool.false_eq_true,if_false,if_true]
   rw [pInt_fixed]
   rfl
  ·simp only [counted,if_true]
   have:pUv ([0] ++ rest)=some (0,rest):=by simp [pUv,pUvGo]
   rw [rThen_of this]
   rfl
 rw [rThen_of this,if_neg (by omega)]
theorem counted_pos (flex null:Bool) (n size:Nat) (hs:1<=size):1<=(counted flex null n size).length:=by
 unfold counted
 cases flex <;> cases null <;> simp [fixed_length,hs]
 exact uvarint_pos _
theorem whole_length (b:Bytes):(whole b).length<=most:=by simp [whole];omega
theorem whole_whole (b:Bytes):whole (whole b)=whole b:=by unfold whole;rw [List.take_take,Nat.min_self]
theorem whole_of {b:Bytes} (h:b.length<=most):whole b=b:=by simp [whole,List.take_of_length_le h]
def Sorted (l:List (Nat × Bytes)):Prop:=l.Pairwise fun a b=>a.1 < b.1
theorem insTag_mem {t x:Nat × Bytes}:∀ {l:List (Nat × Bytes)},x ∈ insTag t l->x=t∨x ∈ l
 | [],h=>by simp [insTag] at h;exact .inl h
 | y :: l,h=>by
  simp only [insTag] at h
  split at h
  ·rcases List.mem_cons.1 h with rfl | h
   ·exact .inr (by simp)
   ·exact (insTag_mem h).imp id fun h=>List.mem_cons_of_mem _ h
  ·split at h
   ·exact .inr h
   ·rcases List.mem_cons.1 h with rfl | h
    ·exact .inl rfl
    ·exact .inr h
theorem insTag_sorted {t:Nat × Bytes}:∀ {l:List (Nat × Bytes)},Sorted l->Sorted (insTag t l)
 | [],_=>by simp [insTag,Sorted]
 | y :: l,h=>by
  have h':=List.pairwise_cons.1 h
  simp only [insTag]
  split
  ·rename_i hy
   refine List.pairwise_cons.2 ⟨fun a ha=>?_,insTag_sorted h'.2⟩
   rcases insTag_mem ha with rfl | ha
   ·exact hy
   ·exact h'.1 _ ha
  ·split
   ·exact h
   ·refine List.pairwise_cons.2 ⟨fun a ha=>?_,h⟩
    rcases List.mem_cons.1 ha with rfl | ha
    ·omega
    ·have:=h'.1 _ ha
     omega
theorem insTag_length (t:Nat × Bytes):∀ l:List (Nat × Bytes),(insTag t l).length<=l.length+1
 | []=>by simp [insTag]
 | y :: l=>by
  have:=insTag_length t l
  simp only [insTag]
  split
  ·simp;omega
  ·split <;> simp
theorem insTag_end {t:Nat × Bytes}:∀ {l:List (Nat × Bytes)},(∀ x ∈ l,x.1 < t.1)->insTag t l=l ++ [t]
 | [],_=>rfl
 | y :: l,h=>by
  simp only [insTag,List.cons_append]
  rw [if_pos (h y (by simp)),insTag_end fun x hx=>h x (List.mem_cons_of_mem _ hx)]
theorem setTag_end {t:Nat × Bytes}:∀ {l:List (Nat × Bytes)},(∀ x ∈ l,x.1 < t.1)->setTag t l=l ++ [t]
 | [],_=>rfl
 | y :: l,h=>by
  simp only [setTag,List.cons_append]
  rw [if_pos (h y (by simp)),setTag_end fun x hx=>h x (List.mem_cons_of_mem _ hx)]
theorem foldl_ins {u:List (Nat × Bytes)}:∀ (l:List (Nat × Bytes)),Sorted l->(∀ x ∈ l,x ∈ u)->∀ v:List (Nat × Bytes),(∀ x ∈ v,x ∈ u) ->
  Sorted (v.foldl (fun acc t=>insTag t acc) l)/\(∀ x ∈ v.foldl (fun acc t=>insTag t acc) l,x ∈ u)/\(v.foldl (fun acc t=>insTag t acc) l).length<=l.length+v.length:=by
 intro l hl hm v
 induction v generalizing l with
 | nil=>intro _;exact ⟨hl,hm,by simp⟩
 | cons t v ih =>
  intro hv
  have:=ih (insTag t l) (insTag_sorted hl) (fun x hx=>by
   rcases insTag_mem hx with rfl | hx
   ·exact hv _ (by simp)
   ·exact hm _ hx) (fun x hx=>hv x (List.mem_cons_of_mem _ hx))
  refine ⟨this.1,this.2.1,?_⟩
  have h1:=insTag_length t l
  have h2:=this.2.2
  simp only [List.foldl_cons,List.length_cons]
  omega
theorem unknown_facts (u:List (Nat × Bytes)):Sorted (unknown u)/\(∀ x ∈ unknown u,x ∈ u)/\(unknown u).length<=most:=by
 have h:=foldl_ins (u:=u) [] (by simp [Sorted]) (by simp) (u.take most) (fun x hx=>List.mem_of_mem_take hx)
 refine ⟨h.1,h.2.1,?_⟩
 have:=h.2.2
 have h2:(u.take most).length<=most:=by simp;omega
 unfold unknown
 simp only [List.length_nil] at this
 omega
theorem foldl_sorted:∀ (v acc:List (Nat × Bytes)),Sorted (acc ++ v)->v.foldl (fun acc t=>insTag t acc) acc=acc ++ v
 | [],acc,_=>by simp
 | t :: v,acc,h=>by
  have h':=List.pairwise_append.1 h
  simp only [List.foldl_cons]
  rw [insTag_end fun x hx=>h'.2.2 x hx t (by simp),foldl_sorted v (acc ++ [t]) (by simpa [Sorted] using h)]
  simp
theorem unknown_id {u:List (Nat × Bytes)} (h:Sorted u) (hl:u.length<=most):unknown u=u:=by
 unfold unknown
 rw [List.take_of_length_le hl]
 exact foldl_sorted u [] h
def FitTags (u:List (Nat × Bytes)):Prop:=unknown u=u/\u.length<=most/\∀ x ∈ u,x.1 < 4294967296/\x.2.length<=most
theorem pTagN_of:∀ (l acc:List (Nat × Bytes)) (rest:Bytes),(∀ x ∈ l,x.1 < 4294967296)->Sorted (acc ++ l) ->
  pTagN l.length acc (l.flatMap wTag ++ rest)=some (acc ++ l.map fun x=>(x.1,whole x.2),rest)
 | [],acc,rest,_,_=>by simp [pTagN,rOk]
 | t :: l,acc,rest,hk,hs=>by
  have h':=List.pairwise_append.1 hs
  have hw:=whole_length t.2
  have hw':(whole t.2).length<=32767:=hw
  simp only [List.flatMap_cons,List.length_cons,pTagN,wTag,List.append_assoc]
  rw [rThen_of (pUv_uvarint (hk t (by simp)) _),rThen_of (pUv_uvarint (by omega) _),rThen_of (pSpan_append _ _),setTag_end (t:=(t.1,whole t.2)) fun x hx=>h'.2.2 x hx t (by simp)]
  rw [pTagN_of l (acc ++ [(t.1,whole t.2)]) rest (fun x hx=>hk x (List.mem_cons_of_mem _ hx)) ?_]
  ·simp
  ·have h2:=(List.pairwise_cons.1 h'.2.1)
   rw [List.append_assoc]
   refine List.pairwise_append.2 ⟨h'.1,List.pairwise_cons.2 ⟨fun a ha=>h2.1 a ha,h2.2⟩,fun a ha b hb=>?_⟩
   rcases List.mem_cons.1 hb with rfl | hb
   ·exact h'.2.2 a ha t (by simp)
   ·exact h'.2.2 a ha b (List.mem_cons_of_mem _ hb)
theorem pTags_of (flex:Bool) (u:List (Nat × Bytes)) (rest:Bytes) (hk:∀ x ∈ u,x.1 < 4294967296) :
  ∃ u',pTags flex (wTags flex u ++ rest)=some (u',rest)/\FitTags u'/\wTags flex u'=wTags flex u:=by
 cases flex
 ·exact ⟨[],rfl,⟨rfl,by simp,by simp⟩,rfl⟩
 ·obtain ⟨h1,h2,h3⟩:=unknown_facts u
  have hl:((unknown u).map fun x=>(x.1,whole x.2)).length=(unknown u).length:=by simp
  have hs:Sorted ((unknown u).map fun x=>(x.1,whole x.2)):=by
   unfold Sorted
   rw [List.pairwise_map]
   exact h1
  have hid:=unknown_id hs (by omega)
  have h3':(unknown u).length<=32767:=h3
  refine ⟨(unknown u).map fun x=>(x.1,whole x.2),?_,⟨hid,by omega,?_⟩,?_⟩
  ·simp only [pTags,wTags,if_true,List.append_assoc]
   rw [rThen_of (pUv_uvarint (by omega) _),pTagN_of _ [] rest (fun x hx=>hk x (h2 x hx)) (by simpa using h1)]
   simp
  ·intro x hx
   obtain ⟨y,hy,rfl⟩:=List.mem_map.1 hx
   exact ⟨hk y (h2 y hy),whole_length _⟩
  ·simp only [wTags,if_true,hid,hl]
   congr 1
   rw [List.flatMap_map]
   congr 1
   funext x
   simp only [wTag,whole_whole]
theorem pPrim_of (flex nul:Bool) (t:Tree) (k:PK) (rest:Bytes):∃ t',pPrim flex nul k (wPrim flex false t k ++ rest)=some (t',rest)/\t'.s.length<=most/\t'.null=false/\wPrim flex false t' k=wPrim flex false t k:=by
 have hm:(16:Nat)<=most:=by decide
 have hint:∀ w:Nat,∃ t',(rThen (pInt w) fun n=>rOk (tN n)) (fixed t.n w ++ rest)=some (t',rest)/\t'.s.length<=most/\t'.null=false/\fixed t'.n w=fixed t.n w:=by
  intro w
  refine ⟨tN (sgn w (t.n % 256 ^ w).toNat),?_,by simp [tN,Tree.s],rfl,fixed_sgn t.n w⟩
  rw [rThen_of (pInt_fixed t.n w rest)]
  rfl
 cases k
 case bool =>
  have hb:t.n % 2=0∨t.n % 2=1:=by omega
  rcases hb with hb | hb
  ·refine ⟨tN 0,?_,by simp [tN,Tree.s],rfl,?_⟩
   ·simp only [pPrim,wPrim,hb]
    rfl
   ·show [byteOf (0 % 2)]=[byteOf (t.n % 2)]
    rw [hb]
    rfl
  ·refine ⟨tN 1,?_,by simp [tN,Tree.s],rfl,?_⟩
   ·simp only [pPrim,wPrim,hb]
    rfl
   ·show [byteOf (1 % 2)]=[byteOf (t.n % 2)]
    rw [hb]
    rfl
 case u16 =>
  refine ⟨tN (t.n % 256 ^ 2).toNat,?_,by simp [tN,Tree.s],rfl,?_⟩
  ·simp only [pPrim,wPrim,PK.width]
   rw [rThen_of (pFix_fixed t.n 2 rest)]
   rfl
  ·simp only [wPrim,PK.width,tN,Tree.n]
   refine fixed_mod ?_
   rw [Int.toNat_of_nonneg (Int.emod_nonneg _ (by decide)),Int.emod_emod]
 case uuid =>
  have hl:((t.s ++ List.replicate 16 0).take 16).length=16:=by simp
  refine ⟨tS ((t.s ++ List.replicate 16 0).take 16),?_,by show List.length (List.take 16 (t.s ++ List.replicate 16 0))<=most;omega,rfl,?_⟩
  ·simp only [pPrim,wPrim]
   have:=pSpan_append ((t.s ++ List.replicate 16 0).take 16) rest
   rw [hl] at this
   rw [rThen_of (p:=pSpan 16) this]
   rfl
  ·show List.take 16 (List.take 16 (t.s ++ List.replicate 16 0) ++ List.replicate 16 0)=List.take 16 (t.s ++ List.replicate 16 0)
   rw [List.take_append_of_le_length (by omega),List.take_take,Nat.min_self]
 case str =>
  refine ⟨tS (whole t.s),?_,whole_length _,rfl,?_⟩
  ·simp only [pPrim,wPrim,Bool.false_eq_true,if_false,List.append_assoc]
   rw [rThen_of (pCount_of (whole_length t.s) (.inl rfl) _),if_neg (by simp),rThen_of (pSpan_append _ _)]
   rfl
  ·simp [wPrim,tS,Tree.s,whole_whole]
 case bytes =>
  refine ⟨tS (whole t.s),?_,whole_length _,rfl,?_⟩
  ·simp only [pPrim,wPrim,Bool.false_eq_true,if_false,List.append_assoc]
   rw [rThen_of (pCount_of (whole_length t.s) (.inr rfl) _),if_neg (by simp),if_neg (by simp),rThen_of (pSpan_append _ _)]
   rfl
  ·simp [wPrim,tS,Tree.s,whole_whole]
 all_goals exact hint _
theorem wPrim_pos (flex null:Bool) (t:Tree) (k:PK):1<=(wPrim flex null t k).length:=by
 cases k <;> simp [wPrim,fixed_length,PK.width]
 case str=>have:=counted_pos flex null (if null then ([]:Bytes) else whole t.s).length 2 (by decide);cases null <;> simp at this ⊢ <;> omega
 case bytes=>have:=counted_pos flex null (if null then ([]:Bytes) else whole t.s).length 4 (by decide);cases null <;> simp at this ⊢ <;> omega
mutual
def neTy (ver:Int) (flex:Bool):Ty->Bool
 | .prim _=>true
 | .list _ _ _ _=>true
 | .struct _ _ _ _ fs _=>flex || neFs ver flex fs
def neFs (ver:Int) (flex:Bool):Fs->Bool
 | .nil=>false
 | .cons h ty r=>(h.has ver && (decide (0<=h.null) || neTy ver flex ty)) || neFs ver flex r
end
def canNull:Ty->Bool
 | .prim k=>k == .str || k == .bytes
 | _=>true
mutual
def okTy (ver:Int) (flex:Bool):Ty->Bool
 | .prim _=>true
 | .list _ _ _ of=>neTy ver flex of && okTy ver flex of
 | .struct _ _ _ _ fs kn=>okFsR ver flex fs && okKn ver flex kn
def okFsR (ver:Int) (flex:Bool):Fs->Bool
 | .nil=>true
 | .cons h ty r=>(!h.has ver || (okTy ver flex ty && (decide (h.null < 0) || canNull ty))) && okFsR ver flex r
def okKn (ver:Int) (flex:Bool):Fs->Bool
 | .nil=>true
 | .cons h ty r=>okTy ver flex ty && decide (h.null < 0) && (match r with | .nil=>true | _=>false)
end
theorem wTagsB_pos (kn:List (Option Bytes)) (u:List (Nat × Bytes)):1<=(wTagsB true kn u).length:=by
 have h:=uvarint_pos
 match kn with
 | []=>simp only [wTagsB,wTags,if_true,List.length_append];have:=h (unknown u).length;omega
 | none :: _=>simp only [wTagsB,if_true,List.length_append];have:=h (unkB u).length;omega
 | some c :: _=>simp only [wTagsB,if_true,List.length_append];have:=h (1+(unkB u).length);omega
mutual
theorem ne_ty (ver:Int) (flex:Bool):∀ (ty:Ty) (t:Tree),neTy ver flex ty=true->1<=(wTy ver flex ty false t).length
 | .prim k,t,_=>by simp only [wTy];exact wPrim_pos _ _ _ _
 | .list _ _ _ of,t,_=>by
  simp only [wTy,Bool.false_eq_true,if_false,List.length_append]
  have:=counted_pos flex false (t.l.take most).length 4 (by decide)
  omega
 | .struct _ _ _ _ fs kn,t,h=>by
  simp only [wTy,List.length_append]
  simp only [neTy,Bool.or_eq_true] at h
  rcases h with rfl | h
  ·have:=wTagsB_pos (wKn ver true kn (t.l.drop (Fs.len fs))) t.u
   omega
  ·have:=ne_fs ver flex fs t.l h
   omega
theorem ne_fs (ver:Int) (flex:Bool):∀ (fs:Fs) (ts:List Tree),neFs ver flex fs=true->1<=(wFs ver flex fs ts).length
 | .nil,_,h=>by simp [neFs] at h
 | .cons hd ty r,ts,h=>by
  rw [wFs_cons]
  simp only [neFs,Bool.or_eq_true,Bool.and_eq_true] at h
  simp only [List.length_append]
  rcases h with ⟨h1,h2⟩ | h
  ·rw [if_pos h1]
   have ih:=ne_ty ver flex ty (ts.headD Tree.zero)
   have:1<=(wField ver flex hd ty (ts.headD Tree.zero)).length:=by
    cases ty with
    | prim k=>simp only [wField,wTy];exact wPrim_pos _ _ _ _
    | list a b c of =>
     simp only [wField,wTy,List.length_append]
     have:=counted_pos flex (hd.isNull ver (ts.headD Tree.zero)) (if hd.isNull ver (ts.headD Tree.zero) then ([]:List Tree) else (ts.headD Tree.zero).l.take most).length 4 (by decide)
     omega
    | struct a b c d fs' kn' =>
     simp only [wField]
     by_cases hn:0<=hd.null
     ·rw [if_pos hn]
      split <;> simp
     ·rw [if_neg hn]
      exact ih (by simpa [hn] using h2)
   omega
  ·have:=ne_fs ver flex r ts.tail h
   omega
end
mutual
def KTy (ver:Int):Ty->Tree->Prop
 | .prim _,_=>True
 | .list _ _ _ of,t=>∀ x ∈ t.l,KTy ver of x
 | .struct _ _ _ _ fs kn,t=>KFs ver fs t.l/\(∀ x ∈ t.u,x.1 < 4294967296)/\KKn ver kn (t.l.drop (Fs.len fs))
def KFs (ver:Int):Fs->List Tree->Prop
 | .nil,_=>True
 | .cons h ty r,ts=>(h.has ver=true->KTy ver ty (ts.headD Tree.zero))/\KFs ver r ts.tail
def KKn (ver:Int):Fs->List Tree->Prop
 | .nil,_=>True
 | .cons _ ty _,ks=>KTy ver ty (ks.headD Tree.zero)/\(wTy ver true ty false (ks.headD Tree.zero)).length < 4294967296
end
def NoZ (kn:Fs) (u:List (Nat × Bytes)):Prop:=match kn with | .nil=>True | _=>∀ x ∈ u,1<=x.1
mutual
def FitTy (ver:Int):Ty->Tree->Prop
 | .prim _,t=>t.s.length<=most
 | .list _ _ _ of,t=>t.l.length<=most/\∀ x ∈ t.l,FitTy ver of x
 | .struct _ _ _ _ fs kn,t=>t=tNull∨(FitFs ver fs t.l/\FitTags t.u/\FitKn ver kn (t.l.drop (Fs.len fs))/\NoZ kn t.u)
def FitFs (ver:Int):Fs->List Tree->Prop
 | .nil,_=>True
 | .cons h ty r,ts=>(h.has ver=true->FitTy ver ty (ts.headD Tree.zero))/\FitFs ver r ts.tail
def FitKn (ver:Int):Fs->List Tree->Prop
 | .nil,_=>True
 | .cons _ ty _,ks=>FitTy ver ty (ks.headD Tree.zero)
end
theorem fitTags_nil:FitTags []:=⟨rfl,by simp,fun x hx=>by cases hx⟩
theorem noZ_nil (kn:Fs):NoZ kn []:=by cases kn <;> simp [NoZ]
mutual
theorem fit_zero (ver:Int):∀ ty:Ty,FitTy ver ty Tree.zero
 | .prim _=>by simp [FitTy,Tree.zero,Tree.s]
 | .list _ _ _ _=>by simp [FitTy,Tree.zero,Tree.l]
 | .struct _ _ _ _ fs kn=>by
  simp only [FitTy,Tree.zero,Tree.l,Tree.u,List.drop_nil]
  exact .inr ⟨fitFs_nil ver fs,fitTags_nil,fitKn_nil ver kn,noZ_nil kn⟩
theorem fitFs_nil (ver:Int):∀ fs:Fs,FitFs ver fs []
 | .nil=>by simp [FitFs]
 | .cons h ty r=>by simp only [FitFs,List.headD_nil,List.tail_nil];exact ⟨fun _=>fit_zero ver ty,fitFs_nil ver r⟩
theorem fitKn_nil (ver:Int):∀ kn:Fs,FitKn ver kn []
 | .nil=>by simp [FitKn]
 | .cons h ty r=>by simp only [FitKn,List.headD_nil];exact fit_zero ver ty
end
theorem dFs_len:∀ fs:Fs,(dFs fs).length=Fs.len fs
 | .nil=>rfl
 | .cons h ty r=>by simp only [dFs,List.length_cons,Fs.len,dFs_len r]
mutual
theorem fit_dT (ver:Int):∀ (ty:Ty) (h:Hd),FitTy ver ty (dT h ty)
 | .prim _,h=>by simp [FitTy,dT,Tree.s]
 | .list _ _ _ _,h=>by simp [FitTy,dT,Tree.l]
 | .struct _ _ _ _ fs kn,h=>by
  simp only [FitTy,dT,Tree.l,Tree.u]
  refine .inr ⟨fit_dFs ver fs,fitTags_nil,?_,noZ_nil kn⟩
  rw [List.drop_of_length_le (by rw [dFs_len];exact Nat.le_refl _)]
  exact fitKn_nil ver kn
theorem fit_dFs (ver:Int):∀ fs:Fs,FitFs ver fs (dFs fs)
 | .nil=>by simp [FitFs]
 | .cons h ty r=>by simp only [FitFs,dFs,List.headD_cons,List.tail_cons];exact ⟨fun _=>fit_dT ver ty h,fit_dFs ver r⟩
end
theorem pFs_len (ver:Int) (flex:Bool):∀ (fs:Fs) (b r:Bytes) (xs:List Tree),pFs ver flex fs b=some (xs,r)->xs.length=Fs.len fs
 | .nil,b,r,xs,h=>by
  simp only [pFs,rOk,Option.some.injEq,Prod.mk.injEq] at h
  rw [<- h.1];rfl
 | .cons hd ty rs,b,r,xs,h=>by
  simp only [pFs] at h
  obtain ⟨x,r1,_,h⟩:=rThen_some h
  obtain ⟨ys,r2,h2,h⟩:=rThen_some h
  simp only [rOk,Option.some.injEq,Prod.mk.injEq] at h
  rw [<- h.1,List.length_cons,pFs_len ver flex rs r1 r2 ys h2,Fs.len]
theorem unkB_facts (u:List (Nat × Bytes)):Sorted (unkB u)/\(∀ x ∈ unkB u,x ∈ u/\1<=x.1)/\(unkB u).length<=most:=by
 have h:=foldl_ins (u:=u.filter fun t=>decide (1<=t.1)) [] (by simp [Sorted]) (by simp) ((u.take most).filter fun t=>decide (1<=t.1)) (fun x hx=>by
  simp only [List.mem_filter] at hx ⊢
  exact ⟨List.mem_of_mem_take hx.1,hx.2⟩)
 refine ⟨h.1,fun x hx=>?_,?_⟩
 ·have:=h.2.1 x hx
  simpa using this
 ·have:=h.2.2
  have h2:=List.length_filter_le (fun t:Nat × Bytes=>decide (1<=t.1)) (u.take most)
  have h3:(u.take most).length<=most:=by simp;omega
  unfold unkB
  simp only [List.length_nil] at this
  omega
theorem unkB_id {u:List (Nat × Bytes)} (h:Sorted u) (hl:u.length<=most) (hz:∀ x ∈ u,1<=x.1):unkB u=u:=by
 unfold unkB
 rw [List.take_of_length_le hl,List.filter_eq_self.2 (fun x hx=>by simpa using hz x hx)]
 exact foldl_sorted u [] h
theorem pTagK_of (p:Rd Tree) (k:Tree):∀ (l acc:List (Nat × Bytes)) (rest:Bytes),(∀ x ∈ l,x.1 < 4294967296)->(∀ x ∈ l,1<=x.1)->Sorted (acc ++ l) ->
  pTagK p l.length k acc (l.flatMap wTag ++ rest)=some (([k],acc ++ l.map fun x=>(x.1,whole x.2)),rest)
 | [],acc,rest,_,_,_=>by simp [pTagK,rOk]
 | t :: l,acc,rest,hk,hz,hs=>by
  have h':=List.pairwise_append.1 hs
  have hw:=whole_length t.2
  have hw':(whole t.2).length<=32767:=hw
  have hz1:t.1 ≠ 0:=by have:=hz t (by simp);omega
  simp only [List.flatMap_cons,List.length_cons,pTagK,wTag,List.append_assoc]
  rw [rThen_of (pUv_uvarint (hk t (by simp)) _),rThen_of (pUv_uvarint (by omega) _),rThen_of (pSpan_append _ _),if_neg hz1,setTag_end (t:=(t.1,whole t.2)) fun x hx=>h'.2.2 x hx t (by simp)]
  rw [pTagK_of p k l (acc ++ [(t.1,whole t.2)]) rest (fun x hx=>hk x (List.mem_cons_of_mem _ hx)) (fun x hx=>hz x (List.mem_cons_of_mem _ hx)) ?_]
  ·simp
  ·have h2:=(List.pairwise_cons.1 h'.2.1)
   rw [List.append_assoc]
   refine List.pairwise_append.2 ⟨h'.1,List.pairwise_cons.2 ⟨fun a ha=>h2.1 a ha,h2.2⟩,fun a ha b hb=>?_⟩
   rcases List.mem_cons.1 hb with rfl | hb
   ·exact h'.2.2 a ha t (by simp)
   ·exact h'.2.2 a ha b (List.mem_cons_of_mem _ hb)
theorem pTagsB_of (p:Rd Tree) (d:Tree) (o:Option Bytes) (u:List (Nat × Bytes)) (rest:Bytes) (hk:∀ x ∈ u,x.1 < 4294967296) (ho:∀ c,o=some c->c.length < 4294967296/\∃ x,p c=some (x,[])) :
  ∃ k' u',(rThen pUv fun n=>pTagK p n d []) (wTagsB true [o] u ++ rest)=some (([k'],u'),rest)/\(match o with | none=>k'=d | some c=>p c=some (k',[]))/\FitTags u'/\(∀ x ∈ u',1<=x.1)/\wTagsB true [o] u'=wTagsB true [o] u:=by
 obtain ⟨h1,h2,h3⟩:=unkB_facts u
 have hl:((unkB u).map fun x=>(x.1,whole x.2)).length=(unkB u).length:=by simp
 have hs:Sorted ((unkB u).map fun x=>(x.1,whole x.2)):=by
  unfold Sorted
  rw [List.pairwise_map]
  exact h1
 have hz:∀ x ∈ (unkB u).map fun x=>(x.1,whole x.2),1<=x.1:=fun x hx=>by
  obtain ⟨y,hy,rfl⟩:=List.mem_map.1 hx
  exact (h2 y hy).2
 have hid:=unkB_id hs (by omega) hz
 have hid0:=unknown_id hs (by omega)
 have h3':(unkB u).length<=32767:=h3
 have hfm:(((unkB u).map fun x=>(x.1,whole x.2)).flatMap wTag)=(unkB u).flatMap wTag:=by
  rw [List.flatMap_map]
  congr 1
  funext x
  simp only [wTag,whole_whole]
 have hfit:FitTags ((unkB u).map fun x=>(x.1,whole x.2)):=⟨hid0,by omega,fun x hx=>by
  obtain ⟨y,hy,rfl⟩:=List.mem_map.1 hx
  exact ⟨hk y (h2 y hy).1,whole_length _⟩⟩
 have hrec:=fun k=>pTagK_of p k (unkB u) [] rest (fun x hx=>hk x (h2 x hx).1) (fun x hx=>(h2 x hx).2) (by simpa using h1)
 cases o with
 | none =>
  refine ⟨d,_,?_,rfl,hfit,hz,?_⟩
  ·simp only [wTagsB,if_true,List.append_assoc]
   rw [rThen_of (pUv_uvarint (by omega) _),hrec d]
   simp
  ·simp only [wTagsB,if_true,hid,hl,hfm]
 | some c =>
  obtain ⟨hc,x,hx⟩:=ho c rfl
  refine ⟨x,_,?_,hx,hfit,hz,?_⟩
  ·simp only [wTagsB,if_true,List.append_assoc]
   rw [rThen_of (pUv_uvarint (by omega) _),Nat.add_comm 1]
   simp only [pTagK]
   rw [rThen_of (pUv_uvarint (by decide) _),rThen_of (pUv_uvarint hc _),rThen_of (pSpan_append _ _),if_pos rfl,hx]
   simp only
   rw [hrec x]
   simp
  ·simp only [wTagsB,if_true,hid,hl,hfm]
theorem pMany_of {p:Rd Tree} {w:Tree->Bytes} {R:Tree->Prop} (hp:∀ t rest,R t->∃ t',p (w t ++ rest)=some (t',rest)/\w t'=w t) {Fit:Tree->Prop} (hp':∀ t rest t' ,R t->p (w t ++ rest)=some (t',rest)->Fit t') :
  ∀ (l:List Tree) (rest:Bytes),(∀ x ∈ l,R x)->∃ l',pMany p l.length (l.flatMap w ++ rest)=some (l',rest)/\l'.length=l.length/\(∀ x ∈ l',Fit x)/\l'.flatMap w=l.flatMap w
 | [],rest,_=>⟨[],by simp [pMany,rOk]⟩
 | t :: l,rest,hR=>by
  obtain ⟨t',h1,h2⟩:=hp t (l.flatMap w ++ rest) (hR t (by simp))
  obtain ⟨l',q1,q2,q3,q4⟩:=pMany_of hp hp' l rest fun x hx=>hR x (List.mem_cons_of_mem _ hx)
  refine ⟨t' :: l',?_,by simp [q2],?_,by simp [h2,q4]⟩
  ·simp only [List.flatMap_cons,List.length_cons,pMany,List.append_assoc]
   rw [rThen_of h1,rThen_of q1]
   rfl
  ·intro x hx
   rcases List.mem_cons.1 hx with rfl | hx
   ·exact hp' t _ _ (hR t (by simp)) h1
   ·exact q3 x hx
theorem flatMap_len {w:Tree->Bytes} (h:∀ t,1<=(w t).length):∀ l:List Tree,l.length<=(l.flatMap w).length
 | []=>by simp
 | t :: l=>by
  have:=flatMap_len h l
  have:=h t
  simp only [List.flatMap_cons,List.length_cons,List.length_append]
  omega
def wN (ver:Int) (flex:Bool) (ty:Ty) (nul:Bool) (t:Tree):Bytes :=
 match ty with
 | .struct _ _ _ _ _ _=>if nul then 1 :: wTy ver flex ty false t else wTy ver flex ty false t
 | _=>wTy ver flex ty false t
theorem isNull_false {h:Hd} {ver:Int} {t:Tree} (ht:t.null=false):h.isNull ver t=false:=by simp [Hd.isNull,ht]
theorem fs_app (ver:Int) (flex:Bool):∀ (fs:Fs) (xs ks:List Tree),xs.length=Fs.len fs->wFs ver flex fs (xs ++ ks)=wFs ver flex fs xs/\(FitFs ver fs xs->FitFs ver fs (xs ++ ks))
 | .nil,xs,ks,_=>by simp [wFs,FitFs]
 | .cons h ty r,x :: xs,ks,hl=>by
  have ih:=fs_app ver flex r xs ks (by simpa [Fs.len] using hl)
  rw [wFs_cons,wFs_cons]
  simp only [List.cons_append,List.headD_cons,List.tail_cons,FitFs,ih.1,true_and]
  exact fun h=>⟨h.1,ih.2 h.2⟩
 | .cons h ty r,[],ks,hl=>by simp [Fs.len] at hl
mutual
theorem rt_ty (ver:Int) (flex:Bool):∀ (ty:Ty) (nul:Bool) (t:Tree) (rest:Bytes),okTy ver flex ty=true->KTy ver ty t ->
  ∃ t',pTy ver flex ty nul (wN ver flex ty nul t ++ rest)=some (t',rest)/\FitTy ver ty t'/\t'.null=false/\wTy ver flex ty false t'=wTy ver flex ty false t
 | .prim k,nul,t,rest,_,_=>by
  obtain ⟨t',h1,h2,h3,h4⟩:=pPrim_of flex nul t k rest
  exact ⟨t',by simpa [pTy,wTy,wN] using h1,by simpa [FitTy] using h2,h3,by simpa [wTy] using h4⟩
 | .list a b c of,nul,t,rest,hok,hk=>by
  simp only [okTy,Bool.and_eq_true] at hok
  simp only [KTy] at hk
  have hne:=fun t=>ne_ty ver flex of t hok.1
  have hml:(t.l.take most).length<=most:=by simp;omega
  have e:∀ x r,wN ver flex of false x ++ r=wTy ver flex of false x ++ r:=by intro x r;cases of <;> simp [wN]
  obtain ⟨l',h1,h2,h3,h4⟩:=pMany_of (p:=pTy ver flex of false) (w:=fun x=>wTy ver flex of false x) (R:=fun x=>KTy ver of x)
   (fun x r hx=>by
    obtain ⟨t',q1,q2,q3,q4⟩:=rt_ty ver flex of false x r hok.2 hx
    exact ⟨t',by rw [<- e];exact q1,q4⟩) (Fit:=FitTy ver of)
   (fun x r t' hx hp=>by
    obtain ⟨t2,q1,q2,q3,q4⟩:=rt_ty ver flex of false x r hok.2 hx
    rw [e,hp] at q1
    simp only [Option.some.injEq,Prod.mk.injEq,and_true] at q1
    rw [q1]
    exact q2)
   (t.l.take most) rest (fun x hx=>hk x (List.mem_of_mem_take hx))
  refine ⟨tL l',?_,⟨by simp only [tL,Tree.l];omega,by simpa [tL,Tree.l] using h3⟩,rfl,?_⟩
  ·simp only [pTy,wN,wTy,Bool.false_eq_true,if_false,List.append_assoc]
   have hfl:=flatMap_len (w:=fun x=>wTy ver flex of false x) hne (t.l.take most)
   rw [rThen_of (pLen_of hml _ (by rw [List.length_append];omega)),if_neg (by simp)]
   simp only [Int.toNat_natCast]
   rw [rThen_of h1]
   rfl
  ·simp only [wTy,Bool.false_eq_true,if_false]
   rw [show (tL l').l=l' from rfl,List.take_of_length_le (by omega),h2,h4]
 | .struct a b c d fs kn,nul,t,rest,hok,hk=>by
  simp only [okTy,Bool.and_eq_true] at hok
  simp only [KTy] at hk
  obtain ⟨ks',u',q1,q2,q3,q4,q5⟩:=rt_kn ver flex kn (t.l.drop (Fs.len fs)) t.u rest hok.2 hk.2.2 hk.2.1
  obtain ⟨ts',h1,h2,h3⟩:=rt_fs ver flex fs t.l (wTagsB flex (wKn ver flex kn (t.l.drop (Fs.len fs))) t.u ++ rest) hok.1 hk.1
  have hlen:=pFs_len ver flex fs _ _ _ h1
  have hdr:(ts' ++ ks').drop (Fs.len fs)=ks':=by rw [<- hlen];simp
  have hfsA:=fs_app ver flex fs ts' ks' hlen
  refine ⟨.mk 0 [] false (ts' ++ ks') u',?_,?_,rfl,?_⟩
  ·simp only [pTy,wN,wTy]
   have e:(if nul then pInt 1 else rOk 0) ((if nul then 1 :: (wFs ver flex fs t.l ++ wTagsB flex (wKn ver flex kn (t.l.drop (Fs.len fs))) t.u) else wFs ver flex fs t.l ++ wTagsB flex (wKn ver flex kn (t.l.drop (Fs.len fs))) t.u) ++ rest)=some ((if nul then 1 else 0:Int),wFs ver flex fs t.l ++ (wTagsB flex (wKn ver flex kn (t.l.drop (Fs.len fs))) t.u ++ rest)):=by
    cases nul
    ·simp [rOk]
    ·simp only [if_true,List.cons_append,List.append_assoc]
     exact pInt_small (n:=1) 1 (by decide) (wFs ver flex fs t.l ++ (wTagsB flex (wKn ver flex kn (t.l.drop (Fs.len fs))) t.u ++ rest))
   rw [rThen_of e,if_neg (by cases nul <;> simp),rThen_of h1,rThen_of q1]
   rfl
  ·simp only [FitTy,Tree.l,Tree.u,hdr]
   exact .inr ⟨hfsA.2 h2,q2,q3,q4⟩
  ·simp only [wTy,Tree.l,Tree.u,hdr,hfsA.1,h3,q5]
theorem rt_kn (ver:Int) (flex:Bool):∀ (kn:Fs) (ks:List Tree) (u:List (Nat × Bytes)) (rest:Bytes),okKn ver flex kn=true->KKn ver kn ks->(∀ x ∈ u,x.1 < 4294967296) ->
  ∃ ks' u',pKn ver flex kn (wTagsB flex (wKn ver flex kn ks) u ++ rest)=some ((ks',u'),rest)/\FitTags u'/\FitKn ver kn ks'/\NoZ kn u'/\wTagsB flex (wKn ver flex kn ks') u'=wTagsB flex (wKn ver flex kn ks) u
 | .nil,ks,u,rest,_,_,hu=>by
  obtain ⟨u',q1,q2,q3⟩:=pTags_of flex u rest hu
  refine ⟨[],u',?_,q2,by simp [FitKn],by simp [NoZ],?_⟩
  ·simp only [pKn,wKn,wTagsB]
   rw [rThen_of q1]
   rfl
  ·simpa only [wKn,wTagsB] using q3
 | .cons h ty r,ks,u,rest,hok,hk,hu=>by
  simp only [okKn,Bool.and_eq_true] at hok
  simp only [KKn] at hk
  cases flex with
  | false =>
   refine ⟨[dT h ty],[],?_,fitTags_nil,?_,noZ_nil _,?_⟩
   ·simp only [pKn,Bool.false_eq_true,if_false]
    have:wTagsB false (wKn ver false (.cons h ty r) ks) u=[]:=by
     simp only [wKn]
     split <;> simp [wTagsB]
    rw [this]
    rfl
   ·simp only [FitKn,List.headD_cons]
    exact fit_dT ver ty h
   ·simp only [wKn]
    split <;> split <;> simp [wTagsB]
  | true =>
   have e:∀ x,wN ver true ty false x=wTy ver true ty false x:=fun x=>by cases ty <;> simp [wN]
   have hrt:=fun k (hk:KTy ver ty k)=>rt_ty ver true ty false k [] hok.1.1 hk
   by_cases heq:wTy ver true ty false (ks.headD Tree.zero)=wTy ver true ty false (dT h ty)
   ·obtain ⟨k',u',q1,q2,q3,q4,q5⟩:=pTagsB_of (pTy ver true ty false) (dT h ty) none u rest hu (fun c hc=>by cases hc)
    simp only at q2
    subst q2
    refine ⟨[dT h ty],u',?_,q3,?_,by simpa only [NoZ] using q4,?_⟩
    ·simp only [pKn,if_true,wKn,if_pos heq]
     exact q1
    ·simp only [FitKn,List.headD_cons]
     exact fit_dT ver ty h
    ·simp only [wKn,List.headD_cons,if_pos heq,if_true]
     exact q5
   ·obtain ⟨x,z1,z2,_,z4⟩:=hrt _ hk.1
    rw [List.append_nil,e] at z1
    obtain ⟨k',u',q1,q2,q3,q4,q5⟩:=pTagsB_of (pTy ver true ty false) (dT h ty) (some (wTy ver true ty false (ks.headD Tree.zero))) u rest hu (fun c hc=>by cases hc;exact ⟨hk.2,x,z1⟩)
    simp only at q2
    rw [q2] at z1
    cases z1
    refine ⟨[x],u',?_,q3,?_,by simpa only [NoZ] using q4,?_⟩
    ·simp only [pKn,if_true,wKn,if_neg heq]
     exact q1
    ·simpa only [FitKn,List.headD_cons] using z2
    ·simp only [wKn,List.headD_cons,z4,if_neg heq]
     exact q5
theorem rt_fs (ver:Int) (flex:Bool):∀ (fs:Fs) (ts:List Tree) (rest:Bytes),okFsR ver flex fs=true->KFs ver fs ts ->
  ∃ ts',pFs ver flex fs (wFs ver flex fs ts ++ rest)=some (ts',rest)/\FitFs ver fs ts'/\wFs ver flex fs ts'=wFs ver flex fs ts
 | .nil,ts,rest,_,_=>⟨[],by simp [pFs,wFs,rOk],by simp [FitFs],rfl⟩
 | .cons h ty r,ts,rest,hok,hk=>by
  simp only [okFsR,Bool.and_eq_true,Bool.or_eq_true,Bool.not_eq_true'] at hok
  simp only [KFs] at hk
  obtain ⟨xs,h1,h2,h3⟩:=rt_fs ver flex r ts.tail rest hok.2 hk.2
  by_cases hh:h.has ver=true
  ·obtain ⟨ho1,ho2⟩:okTy ver flex ty=true/\(decide (h.null < 0)=true∨canNull ty=true):=by
    rcases hok.1 with h0 | h0
    ·rw [hh] at h0;simp at h0
    ·exact h0
   have key:∃ t',pTy ver flex ty (nulAt ver h ty) (wField ver flex h ty (ts.headD Tree.zero) ++ (wFs ver flex r ts.tail ++ rest))=some (t',wFs ver flex r ts.tail ++ rest)/\FitTy ver ty t'/\wField ver flex h ty t'=wField ver flex h ty (ts.headD Tree.zero):=by
    have hk1:=hk.1 hh
    generalize ts.headD Tree.zero=t at hk1
    generalize wFs ver flex r ts.tail ++ rest=rest'
    cases hn:h.isNull ver t with
    | true =>
     have hn':(0<=h.null)/\h.null<=ver:=by
      simp only [Hd.isNull,Bool.and_eq_true,decide_eq_true_eq] at hn
      exact hn.2
     have hn2:h.isNull ver tNull=true:=by simp [Hd.isNull,tNull,Tree.null,hn']
     have hcan:canNull ty=true:=by
      rcases ho2 with h0 | h0
      ·simp at h0;omega
      ·exact h0
     refine ⟨tNull,?_,?_,?_⟩
     ·cases ty with
      | prim k =>
       simp only [wField,hn,pTy,nulAt,wTy]
       cases k <;> simp [canNull] at hcan
       ·simp only [pPrim,wPrim,if_true,List.length_nil,List.append_nil,hn',decide_true,Bool.and_self]
        rw [rThen_of (pCount_null (.inl rfl) _),if_pos (by simp)]
        rfl
       ·simp only [pPrim,wPrim,if_true,List.length_nil,List.append_nil,hn',decide_true,Bool.and_self]
        rw [rThen_of (pCount_null (.inr rfl) _),if_pos (by simp)]
        rfl
      | list a b c of =>
       simp only [wField,hn,pTy,nulAt,wTy,if_true,List.length_nil,List.flatMap_nil,List.append_nil,hn',decide_true,Bool.and_self]
       rw [rThen_of (pLen_null _),if_pos (by simp)]
       rfl
      | struct a b c d fs kn =>
       simp only [wField,hn,pTy,nulAt,if_pos hn'.1,if_true,decide_eq_true hn'.1]
       have:pInt 1 ([255] ++ rest')=some (-1,rest'):=by
        simp [pInt,pFix,rThen,rOk,unfix,sgn]
       rw [rThen_of this,if_pos (by simp)]
       rfl
     ·cases ty with
      | prim k=>simp [FitTy,tNull,Tree.s]
      | list a b c of=>simp [FitTy,tNull,Tree.l]
      | struct a b c d fs kn=>simp only [FitTy];exact .inl trivial
     ·cases ty with
      | prim k =>
       simp only [wField,hn,hn2,wTy]
       cases k <;> simp [canNull] at hcan <;> simp [wPrim]
      | list a b c of=>simp [wField,hn,hn2,wTy]
      | struct a b c d fs kn=>simp only [wField,hn,hn2,if_pos hn'.1,if_true]
    | false =>
     obtain ⟨t',q1,q2,q3,q4⟩:=rt_ty ver flex ty (nulAt ver h ty) t rest' ho1 hk1
     refine ⟨t',?_,q2,?_⟩
     ·have e:wField ver flex h ty t=wN ver flex ty (nulAt ver h ty) t:=by
       cases ty <;> simp only [wField,wN,hn,nulAt,decide_eq_true_eq,Bool.false_eq_true,if_false]
      rw [e]
      exact q1
     ·have hn2:h.isNull ver t'=false:=isNull_false q3
      cases ty <;> simp only [wField,hn,hn2,Bool.false_eq_true,if_false,q4]
   obtain ⟨t',k1,k2,k3⟩:=key
   refine ⟨t' :: xs,?_,?_,?_⟩
   ·simp only [pFs]
    rw [wFs_cons,if_pos hh,if_pos hh,List.append_assoc,rThen_of k1,rThen_of h1]
    rfl
   ·simp only [FitFs,List.headD_cons,List.tail_cons]
    exact ⟨fun _=>k2,h2⟩
   ·rw [wFs_cons,wFs_cons,if_pos hh,if_pos hh]
    simp only [List.headD_cons,List.tail_cons,k3,h3]
  ·refine ⟨Tree.zero :: xs,?_,?_,?_⟩
   ·simp only [pFs]
    rw [wFs_cons,if_neg hh,if_neg hh,List.nil_append,rThen_of (show rOk Tree.zero _=some (Tree.zero,_) from rfl),rThen_of h1]
    rfl
   ·simp only [FitFs,List.tail_cons]
    exact ⟨fun h=>absurd h hh,h2⟩
   ·rw [wFs_cons,wFs_cons,if_neg hh,if_neg hh]
    simp only [List.tail_cons,h3]
end
theorem setTag_mem {t x:Nat × Bytes}:∀ {l:List (Nat × Bytes)},x ∈ setTag t l->x=t∨x ∈ l
 | [],h=>by simp [setTag] at h;exact .inl h
 | y :: l,h=>by
  simp only [setTag] at h
  split at h
  ·rcases List.mem_cons.1 h with rfl | h
   ·exact .inr (by simp)
   ·exact (setTag_mem h).imp id fun h=>List.mem_cons_of_mem _ h
  ·split at h
   ·exact (List.mem_cons.1 h).imp id fun h=>List.mem_cons_of_mem _ h
   ·exact (List.mem_cons.1 h).imp id fun h=>h
theorem setTag_sorted {t:Nat × Bytes}:∀ {l:List (Nat × Bytes)},Sorted l->Sorted (setTag t l)
 | [],_=>by simp [setTag,Sorted]
 | y :: l,h=>by
  have h':=List.pairwise_cons.1 h
  simp only [setTag]
  split
  ·rename_i hy
   refine List.pairwise_cons.2 ⟨fun a ha=>?_,setTag_sorted h'.2⟩
   rcases setTag_mem ha with rfl | ha
   ·exact hy
   ·exact h'.1 _ ha
  ·split
   ·rename_i he
    exact List.pairwise_cons.2 ⟨fun a ha=>by have:=h'.1 a ha;omega,h'.2⟩
   ·refine List.pairwise_cons.2 ⟨fun a ha=>?_,h⟩
    rcases List.mem_cons.1 ha with rfl | ha
    ·omega
    ·have:=h'.1 _ ha
     omega
theorem pUvGo_facts:∀ (k m:Nat) (b r:Bytes) (n:Nat),0 < m->pUvGo k m b=some (n,r)->n < 16 * 128 ^ k * m/\r.length+1<=b.length
 | k,m,[],r,n,_,h=>by simp [pUvGo] at h
 | 0,m,u :: b,r,n,hm,h=>by
  simp only [pUvGo] at h
  split at h
  ·simp only [Option.some.injEq,Prod.mk.injEq] at h
   obtain ⟨rfl,rfl⟩:=h
   refine ⟨?_,by simp⟩
   have:u.toNat * m<=15 * m:=Nat.mul_le_mul_right _ (by assumption)
   simp only [Nat.pow_zero,Nat.mul_one]
   omega
  ·simp at h
 | k+1,m,u :: b,r,n,hm,h=>by
  have h128:1<=128 ^ k:=Nat.pow_pos (by decide)
  have e:16 * 128 ^ (k+1) * m=128 * (16 * 128 ^ k * m):=by
   rw [Nat.pow_succ]
   simp only [Nat.mul_comm,Nat.mul_left_comm]
  have hge:16 * m<=16 * 128 ^ k * m:=Nat.mul_le_mul_right _ (by omega)
  simp only [pUvGo] at h
  split at h
  ·simp only [Option.some.injEq,Prod.mk.injEq] at h
   obtain ⟨rfl,rfl⟩:=h
   refine ⟨?_,by simp⟩
   have:u.toNat * m<=127 * m:=Nat.mul_le_mul_right _ (by omega)
   omega
  ·cases hp:pUvGo k (m * 128) b with
   | none=>rw [hp] at h;simp at h
   | some z =>
    rw [hp] at h
    simp only [Option.map_some,Option.some.injEq,Prod.mk.injEq] at h
    obtain ⟨h1,h2⟩:=pUvGo_facts k (m * 128) b z.2 z.1 (by omega) hp
    obtain ⟨rfl,rfl⟩:=h
    refine ⟨?_,by simp;omega⟩
    have hd:=pUvGo_dvd k (m * 128) b z.2 z.1 hp
    obtain ⟨q,hq⟩:=hd
    have hq1:q < 16 * 128 ^ k:=by
     rw [hq,Nat.mul_comm (16 * 128 ^ k)] at h1
     exact Nat.lt_of_mul_lt_mul_left h1
    have hu:u.toNat % 128 * m<=127 * m:=Nat.mul_le_mul_right _ (by omega)
    have hq2:m * 128 * q<=m * 128 * (16 * 128 ^ k - 1):=Nat.mul_le_mul_left _ (by omega)
    have e2:m * 128 * (16 * 128 ^ k - 1)+m * 128=128 * (16 * 128 ^ k * m):=by
     rw [<- Nat.mul_succ,Nat.succ_eq_add_one,Nat.sub_add_cancel (by omega)]
     simp only [Nat.mul_assoc,Nat.mul_comm,Nat.mul_left_comm]
    rw [e,hq]
    omega
where pUvGo_dvd:∀ (k m:Nat) (b r:Bytes) (n:Nat),pUvGo k m b=some (n,r)->m ∣ n
 | k,m,[],r,n,h=>by simp [pUvGo] at h
 | 0,m,u :: b,r,n,h=>by
  simp only [pUvGo] at h
  split at h
  ·simp only [Option.some.injEq,Prod.mk.injEq] at h
   rw [<- h.1]
   exact Nat.dvd_mul_left _ _
  ·simp at h
 | k+1,m,u :: b,r,n,h=>by
  simp only [pUvGo] at h
  split at h
  ·simp only [Option.some.injEq,Prod.mk.injEq] at h
   rw [<- h.1]
   exact Nat.dvd_mul_left _ _
  ·cases hp:pUvGo k (m * 128) b with
   | none=>rw [hp] at h;simp at h
   | some z =>
    rw [hp] at h
    simp only [Option.map_some,Option.some.injEq,Prod.mk.injEq] at h
    rw [<- h.1]
    exact Nat.dvd_add (Nat.dvd_mul_left _ _) (Nat.dvd_trans (Nat.dvd_mul_right m 128) (pUvGo_dvd k (m * 128) b z.2 z.1 hp))
theorem pUv_facts {b r:Bytes} {n:Nat} (h:pUv b=some (n,r)):n < 4294967296/\r.length+1<=b.length:=by
 have:=pUvGo_facts 4 1 b r n (by decide) h
 simpa using this
theorem pSpan_facts {l:Int} {b r s:Bytes} (h:pSpan l b=some (s,r)):0<=l/\(s.length:Int)=l/\s.length+r.length=b.length/\b=s ++ r:=by
 unfold pSpan at h
 split at h
 ·simp at h
 ·simp only [Option.some.injEq,Prod.mk.injEq] at h
  obtain ⟨rfl,rfl⟩:=h
  refine ⟨by omega,by simp;omega,by simp;omega,by simp⟩
theorem pFix_facts {k n:Nat} {b r:Bytes} (h:pFix k b=some (n,r)):r.length+k=b.length/\n=unfix (b.take k)/\r=b.drop k:=by
 unfold pFix at h
 split at h
 ·simp at h
 ·simp only [Option.some.injEq,Prod.mk.injEq] at h
  obtain ⟨rfl,rfl⟩:=h
  exact ⟨by simp;omega,rfl,rfl⟩
theorem rOk_some {α:Type} {x y:α} {b r:Bytes} (h:rOk x b=some (y,r)):x=y/\b=r:=by simpa [rOk] using h
def pMsg (ver:Int) (flex:Bool) (fs kn:Fs):Rd (List Tree × List (Nat × Bytes)):=rThen (pFs ver flex fs) fun xs=>rThen (pKn ver flex kn) fun z=>rOk (xs ++ z.1,z.2)
def wMsg (ver:Int) (flex:Bool) (fs kn:Fs) (ts:List Tree) (u:List (Nat × Bytes)):Bytes:=wFs ver flex fs ts ++ wTagsB flex (wKn ver flex kn (ts.drop (Fs.len fs))) u
theorem msg_again {ver:Int} {flex:Bool} {fs kn:Fs} {ts:List Tree} {u:List (Nat × Bytes)} (hok:okFsR ver flex fs=true) (hok2:okKn ver flex kn=true) (hk:KFs ver fs ts) (hkn:KKn ver kn (ts.drop (Fs.len fs))) (hu:∀ x ∈ u,x.1 < 4294967296) :
  ∃ ts' u',pMsg ver flex fs kn (wMsg ver flex fs kn ts u)=some ((ts',u'),[])/\FitFs ver fs ts'/\FitTags u'/\FitKn ver kn (ts'.drop (Fs.len fs))/\NoZ kn u'/\wMsg ver flex fs kn ts' u'=wMsg ver flex fs kn ts u:=by
 obtain ⟨xs,h1,h2,h3⟩:=rt_fs ver flex fs ts (wTagsB flex (wKn ver flex kn (ts.drop (Fs.len fs))) u) hok hk
 obtain ⟨ks',u',q1,q2,q3,q4,q5⟩:=rt_kn ver flex kn (ts.drop (Fs.len fs)) u [] hok2 hkn hu
 rw [List.append_nil] at q1
 have hlen:=pFs_len ver flex fs _ _ _ h1
 have hdr:(xs ++ ks').drop (Fs.len fs)=ks':=by rw [<- hlen];simp
 have hA:=fs_app ver flex fs xs ks' hlen
 refine ⟨xs ++ ks',u',?_,hA.2 h2,q2,by rw [hdr];exact q3,q4,?_⟩
 ·unfold pMsg wMsg
  rw [rThen_of h1,rThen_of q1]
  rfl
 ·simp only [wMsg,hdr,hA.1,h3,q5]
end Go.Proofs.YtdnpafdgglpagaaGreatDoor.T
namespace Go.Proofs.YtdnpafdgglpagaaGreatDoor.K
open Go Go.RowKit Go.Proofs.YtdnpafdgglpagaaGreatDoor.T
set_option linter.unusedSimpArgs false
set_option linter.unusedVariables false
def RdAt (TR:Nat) (w:World) (S:Option Nat) (rb:Nat):Option Bytes->Prop
 | none=>w.heap[rb]?=some (.cells #[.slice none 0 0,.bool true] TR (0,0))
 | some rest=>∃ base cap,w.heap[rb]?=some (.cells #[.slice base rest.length cap,.bool false] TR (0,0))/\rest.length<=cap /\
   match S with
   | none=>base=none/\rest=[]
   | some sb=>∃ o,base=some ⟨sb,o,none⟩/\∀ j u,rest[j]?=some u->w.cell? ⟨sb,o+j,none⟩=some (cell u)
structure Only (rb:Nat) (w w':World):Prop where
 os:w'.os=w.os
 tape:w'.tape=w.tape
 output:w'.output=w.output
 size:w.heap.size<=w'.heap.size
 block:∀ k,k < w.heap.size->k ≠ rb->w'.heap[k]?=w.heap[k]?
theorem Only.refl (rb:Nat) (w:World):Only rb w w:=⟨rfl,rfl,rfl,Nat.le_refl _,fun _ _ _=>rfl⟩
theorem Only.trans {rb:Nat} {a b c:World} (h:Only rb a b) (k:Only rb b c):Only rb a c :=
 ⟨k.os.trans h.os,k.tape.trans h.tape,k.output.trans h.output,Nat.le_trans h.size k.size,fun i hi hn=>(k.block i (Nat.lt_of_lt_of_le hi h.size) hn).trans (h.block i hi hn)⟩
theorem Only.alloc {rb:Nat} {a w:World} (h:Only rb a w) (o:Obj):Only rb a (w.alloc o) :=
 h.trans ⟨rfl,rfl,rfl,by simp,fun k hk _=>Below.heap_alloc _ _ _ hk⟩
theorem Only.drew {rb:Nat} {a w:World} (h:Only rb a w):Only rb a w.drew:=⟨h.os,h.tape,h.output,h.size,h.block⟩
theorem Only.setRow {rb:Nat} {a w:World} (h:Only rb a w) (cs:Array Value):Only rb a (w.setRow rb cs) :=
 h.trans ⟨rfl,rfl,rfl,by simp,fun k _ hn=>setRow_other _ _ _ _ hn⟩
theorem Only.own {rb b:Nat} {a w:World} (h:Only rb a w) (hb:a.heap.size<=b) (cs:Array Value):Only rb a (w.setRow b cs) :=
 ⟨h.os,h.tape,h.output,by simpa using h.size,fun k hk hn=>(setRow_other _ _ _ _ (by omega)).trans (h.block k hk hn)⟩
theorem Only.below {rb B:Nat} {w w':World} (h:Only rb w w') (hB:B<=rb) (hs:B<=w.heap.size):Below B w w' :=
 ⟨h.os,h.tape,h.output,h.size,fun k hk=>h.block k (by omega) (by omega)⟩
theorem Only.cell {rb:Nat} {w w':World} (h:Only rb w w') {a:Addr} (hk:a.block < w.heap.size) (hn:a.block ≠ rb):w'.cell? a=w.cell? a:=World.cell?_of_block (h.block _ hk hn)
def after {α:Type} (st:Option Bytes) (p:Rd α):Option Bytes:=st.bind fun b=>(p b).map (·.2)
theorem after_ok {α:Type} {b r:Bytes} {x:α} {p:Rd α} (h:p b=some (x,r)):after (some b) p=some r:=by simp [after,h]
theorem after_no {α:Type} {b:Bytes} {p:Rd α} (h:p b=none):after (some b) p=none:=by simp [after,h]
theorem after_rOk {α:Type} (st:Option Bytes) (x:α):after st (rOk x)=st:=by cases st <;> rfl
theorem after_then {α β:Type} (st:Option Bytes) (p:Rd α) (f:α->Rd β) {x:α} {b r:Bytes} (hs:st=some b) (h:p b=some (x,r)):after st (rThen p f)=after (some r) (f x):=by
 subst hs
 simp [after,rThen_of h]
theorem after_then_none {α β:Type} {st:Option Bytes} {p:Rd α} {f:α->Rd β} (h:after st p=none):after st (rThen p f)=none:=by
 cases st with
 | none=>rfl
 | some b =>
  cases hp:p b with
  | none=>simp [after,rThen,hp]
  | some z=>simp [after,hp] at h
def NewF (S:Option Nat) (w w':World):Nat->Prop:=fun k=>S=some k∨(w.heap.size<=k/\k < w'.heap.size)
def RC {α:Type} (P:Program) (TR gb:Nat) (f:FuncId) (p:Rd α) (ty:Value->Prop) (ok:World->(Nat->Prop)->α->Value->Prop):Prop :=
 FnOK P f/\∀ (w:World) (S:Option Nat) (rb:Nat) (st:Option Bytes),gb < w.heap.size->RdAt TR w S rb st->(∀ sb,S=some sb->sb ≠ rb/\sb < w.heap.size) ->
  Calls P f #[.pointer (some ⟨rb,0,none⟩)] w fun e w'=>∃ v,e=.returned v/\RdAt TR w' S rb (after st p)/\Only rb w w'/\ty v /\
   ∀ b x r,st=some b->p b=some (x,r)->ok w' (NewF S w w') x v
def tyP (nul:Bool):PK->Value->Prop
 | .bool,v=>∃ x,v=.bool x
 | .i8,v=>∃ n,v=.int .i8 n
 | .i16,v=>∃ n,v=.int .i16 n
 | .i32,v=>∃ n,v=.int .i32 n
 | .i64,v=>∃ n,v=.int .i64 n
 | .u16,v=>∃ n,v=.int .u16 n
 | .uuid,v=>∃ bs:Bytes,bs.length=16/\v=.agg (cellsOf bs).toArray
 | .str,v=>if nul then ∃ q,v=.pointer q else ∃ s,v=.string s
 | .bytes,v=>∃ b l c,v=.slice b l c
theorem tyP_one {nul:Bool} {k:PK} {v:Value} (hk:k ≠ .uuid) (h:tyP nul k v):v.oneCell'=true:=by
 cases k <;> simp only [tyP] at h
 case uuid=>exact absurd rfl hk
 case str =>
  split at h <;> obtain ⟨x,rfl⟩:=h <;> rfl
 case bytes=>obtain ⟨b,l,c,rfl⟩:=h;rfl
 all_goals obtain ⟨x,rfl⟩:=h;rfl
def okP (nul:Bool) (k:PK) (w:World) (F:Nat->Prop) (t:Tree) (v:Value):Prop:=t.s.length<=most->(if k=.uuid then v=.agg (cellsOf (uuidOf t)).toArray else PVal w F nul t k v)
def PK.num:PK->Bool
 | .bool=>true | .i8=>true | .i16=>true | .i32=>true | .i64=>true | .u16=>true | _=>false
def TagsV (w:World) (F:Nat->Prop) (u:List (Nat × Bytes)) (m:Value):Prop :=
 (m=.map none/\u=[])∨∃ r es clock,m=.map (some r)/\F r/\w.heap[r]?=some (.map es clock)/\u ≠ []/\TagsEs w F es clock u
def SrcAt (w:World) (S:Option Nat) (base:Option Addr) (rest:Bytes):Prop :=
 match S with
 | none=>base=none/\rest=[]
 | some sb=>∃ o,base=some ⟨sb,o,none⟩/\∀ j u,rest[j]?=some u->w.cell? ⟨sb,o+j,none⟩=some (cell u)
def SpC (P:Program) (TR:Nat) (F:FuncId):Prop:=FnOK P F/\∀ (w:World) (S:Option Nat) (rb:Nat) (st:Option Bytes) (l:Int),RdAt TR w S rb st->(∀ sb,S=some sb->sb ≠ rb/\sb < w.heap.size) ->
 Calls P F #[.pointer (some ⟨rb,0,none⟩),.int .i64 l] w fun e w'=>∃ (S':Option Nat) (base:Option Addr) (cap:Nat) (x:Bytes),e=.returned (.slice base x.length cap)/\RdAt TR w' S rb (after st (pSpan l))/\Only rb w w'/\SrcAt w' S' base x /\
  (∀ bs y r,st=some bs->pSpan l bs=some (y,r)->x=y/\S'=S)/\(S'=none∨S'=S)/\x.length<=cap
def MapV (w:World) (lo tb:Nat) (S:Option Nat) (u:List (Nat × Bytes)) (m:Option Nat):Prop :=
 (m=none/\u=[])∨∃ r es clock,m=some r/\lo<=r/\r ≠ tb/\w.heap[r]?=some (.map es clock)/\u ≠ []/\TagsEs w (fun k=>S=some k) es clock u
structure SetF (tb:Nat) (m:Option Nat) (w w':World):Prop where
 os:w'.os=w.os
 tape:w'.tape=w.tape
 output:w'.output=w.output
 size:w.heap.size<=w'.heap.size
 block:∀ k,k < w.heap.size->k ≠ tb->m ≠ some k->w'.heap[k]?=w.heap[k]?
def SetC (P:Program) (F:FuncId):Prop:=FnOK P F/\∀ (w:World) (tb q lo k cap:Nat) (cs:Array Value) (E:TypeId) (S m:Option Nat) (u:List (Nat × Bytes)) (base:Option Addr) (bs:Bytes),lo<=w.heap.size->(∀ sb,S=some sb->sb < lo/\sb ≠ tb) ->
 w.heap[tb]?=some (.cells cs E (0,0))->cs[q]?=some (.map m)->MapV w lo tb S u m->Sorted u->BytesAt w (fun k=>S=some k) base bs ->
 Calls P F #[.pointer (some ⟨tb,q,none⟩),.int .u32 (k:Int),.slice base bs.length cap] w fun e w'=>e=.returned (.tuple #[])/\SetF tb m w w' /\
  ∃ m',w'.heap[tb]?=some (.cells (cs.setIfInBounds q (.map m')) E (0,0))/\MapV w' lo tb S (setTag (k,bs) u) m'/\(m'=m∨∃ r,m'=some r/\w.heap.size<=r)
structure KR (P:Program) (I:RIds) (TR gb:Nat) (err:Value) (Gl:World->Prop):Prop where
 num:∀ k,PK.num k=true->rNum I k ≠ 0->RC P TR gb (rNum I k) (pPrim false false k) (tyP false k) (okP false k)
 uuid:I.rUuid ≠ 0->RC P TR gb I.rUuid (pPrim false false .uuid) (tyP false .uuid) (okP false .uuid)
 str:I.rStr ≠ 0->RC P TR gb I.rStr (pPrim false false .str) (tyP false .str) (okP false .str)
 cstr:I.rCStr ≠ 0->RC P TR gb I.rCStr (pPrim true false .str) (tyP false .str) (okP false .str)
 nstr:I.rNStr ≠ 0->RC P TR gb I.rNStr (pPrim false true .str) (tyP true .str) (okP true .str)
 cnstr:I.rCNStr ≠ 0->RC P TR gb I.rCNStr (pPrim true true .str) (tyP true .str) (okP true .str)
 bytes:I.rBytes ≠ 0->RC P TR gb I.rBytes (pPrim false false .bytes) (tyP false .bytes) (okP false .bytes)
 cbytes:I.rCBytes ≠ 0->RC P TR gb I.rCBytes (pPrim true false .bytes) (tyP false .bytes) (okP false .bytes)
 nbytes:I.rNBytes ≠ 0->RC P TR gb I.rNBytes (pPrim false true .bytes) (tyP true .bytes) (okP true .bytes)
 arr:I.rArr ≠ 0->RC P TR gb I.rArr (pLen false) (fun v=>∃ n,v=.int .i32 n) (fun _ _ n v=>v=.int .i32 n)
 carr:I.rCArr ≠ 0->RC P TR gb I.rCArr (pLen true) (fun v=>∃ n,v=.int .i32 n) (fun _ _ n v=>v=.int .i32 n)
 tags:I.rTags ≠ 0->RC P TR gb I.rTags (pTags true) (fun v=>∃ m,v=.agg #[m]/\m.oneCell'=true) (fun w F u v=>∃ m,v=.agg #[m]/\TagsV w F u m)
 uvar:I.rUvar ≠ 0->RC P TR gb I.rUvar pUv (fun v=>∃ n:Nat,n < 4294967296/\v=.int .u32 (n:Int)) (fun _ _ n v=>v=.int .u32 (n:Int))
 span:I.rSpan ≠ 0->SpC P TR I.rSpan
 set:I.tSet ≠ 0->SetC P I.tSet
 okF:I.rOk ≠ 0->FnOK P I.rOk
 ok:I.rOk ≠ 0->∀ (w:World) (S:Option Nat) (rb:Nat) (st:Option Bytes),RdAt TR w S rb st->Calls P I.rOk #[.pointer (some ⟨rb,0,none⟩)] w fun e w'=>e=.returned (.bool st.isSome)/\w'=w
 complF:FnOK P I.rCompl
 compl:∀ (w:World) (S:Option Nat) (rb:Nat) (st:Option Bytes),Gl w->RdAt TR w S rb st->Calls P I.rCompl #[.pointer (some ⟨rb,0,none⟩)] w fun e w'=>e=.returned (if st.isSome then .nilIface else err)/\w'=w
end Go.Proofs.YtdnpafdgglpagaaGreatDoor.K
namespace Go.Proofs.YtdnpafdgglpagaaGreatDoor.K
open Go Go.RowKit Go.Proofs.YtdnpafdgglpagaaGreatDoor.T
attribute [local simp] eTm eCo pNo gTp gTn qv qcall vop iop
set_option linter.unusedSimpArgs false
set_option linter.unusedVariables false
set_option maxHeartbeats 1000000
structure RTy where
 TR:Nat
 TB:Nat
 U8:Nat
 I:Nat
 Bo:Nat
def rdOK (P:Program) (R:RTy):Bool :=
 fieldOff P R.TR 0 == some 0 && fieldOff P R.TR 1 == some 1 && oneB P R.TB && sliceN P R.TB == some 1 && oneB P R.Bo && oneB P R.U8 && intK P R.U8 == some .u8 && intK P R.I == some .i64
theorem rd_facts {P:Program} {R:RTy} (h:rdOK P R=true) :
  fieldOff P R.TR 0=some 0/\fieldOff P R.TR 1=some 1/\oneB P R.TB=true/\sliceN P R.TB=some 1/\oneB P R.Bo=true/\oneB P R.U8=true/\intK P R.U8=some .u8/\intK P R.I=some .i64:=by
 simp only [rdOK,Bool.and_eq_true,beq_iff_eq] at h
 obtain ⟨⟨⟨⟨⟨⟨⟨h1,h2⟩,h3⟩,h4⟩,h5⟩,h6⟩,h7⟩,h8⟩:=h
 exact ⟨h1,h2,h3,h4,h5,h6,h7,h8⟩
section
variable {P:Program} {R:RTy} {a:Act} {w:World} {K:Act->World->Prop} {d:Option Tmp} {g:Option (Nat × Bool)}
theorem ops_stR {all r:List SOp} {T b i:Nat} {x y:Operand} {v:Value} {cs:Array Value} {E:TypeId} (h1:oneB P T=true) (hx:a.eval x=.pointer (some ⟨b,i,none⟩)) (hy:a.eval y=v) (hv:v.oneCell'=true) (hrow:w.heap[b]?=some (.cells cs E (0,0))) (hi:i < cs.size)
  (hk:opsw P all r K a (w.setRow b (cs.setIfInBounds i v))):opsw P all (⟨none,.store T x y,none⟩ :: r) K a w:=by
 refine oNo rfl (opw_store_one (ad:=⟨b,i,none⟩) (v:=v) (v0:=cs[i]) h1 hx hy hv (by rw [cell_of_row _ _ _ _ _ _ hrow];exact Array.getElem?_eq_getElem hi) (by simp [World.frozen?,hrow]) ?_)
 rw [pNo,setCell_eq_setRow _ _ _ _ _ _ _ hrow]
 exact hk
def sliceLo (base:Option Addr) (len cap n:Nat):Value:=.slice (if cap=n then base else base.map (·.add n)) (len - n) (cap - n)
theorem opw_sliceLo {T n len cap:Nat} {k:IntKind} {x y:Operand} {base:Option Addr} (hT:sliceN P T=some 1) (hx:a.eval x=.slice base len cap) (hy:a.eval y=.int k (n:Int)) (hn:n<=len) (h:K (a.put d (sliceLo base len cap n)) w) :
  opw P ⟨d,.slice T x (some y) none none,g⟩ a w K:=by
 unfold sliceN at hT
 split at hT <;> try (simp at hT;done)
 rename_i e hu
 obtain ⟨i,hi,hs⟩:=Option.map_eq_some_iff.1 hT
 refine oVa (v:=sliceLo base len cap n) (by simp) (fun p hp=>?_) h
 simp [execOp,hp,hx,hy,Instr.sliceAt,Instr.slice,run_underlying hu,Instr.sliceBounds,Instr.sliceBound,asIntOf,sizeOf,typeInfo,hi,hs,hn,sliceLo]
theorem opw_slice3 {T n len cap:Nat} {k k':IntKind} {x y z:Operand} {base:Option Addr} (hT:sliceN P T=some 1) (hx:a.eval x=.slice base len cap) (hy:a.eval y=.int k (n:Int)) (hz:a.eval z=.int k' (n:Int)) (hn:n<=cap) (h:K (a.put d (.slice base n n)) w) :
  opw P ⟨d,.slice T x none (some y) (some z),g⟩ a w K:=by
 unfold sliceN at hT
 split at hT <;> try (simp at hT;done)
 rename_i e hu
 obtain ⟨i,hi,hs⟩:=Option.map_eq_some_iff.1 hT
 refine oVa (v:=.slice base n n) (by simp) (fun p hp=>?_) h
 have:base.map (fun x=>x.add 0)=base:=by cases base <;> simp [Addr.add]
 simp [execOp,hp,hx,hy,hz,Instr.sliceAt,Instr.slice,run_underlying hu,Instr.sliceBounds,Instr.sliceBound,asIntOf,sizeOf,typeInfo,hi,hs,hn,this]
end
def rdRow (TR:Nat) (w:World) (rb:Nat) (v:Value) (bad:Bool):Prop:=w.heap[rb]?=some (.cells #[v,.bool bad] TR (0,0))
theorem rdRow_cells {TR rb:Nat} {w:World} {v:Value} {bad:Bool} (h:rdRow TR w rb v bad):w.cell? ⟨rb,0,none⟩=some v/\w.cell? ⟨rb,1,none⟩=some (.bool bad):=by
 constructor <;> rw [cell_of_row _ _ _ _ _ _ h] <;> rfl
theorem rdAt_row {TR rb:Nat} {w:World} {S:Option Nat} {st:Option Bytes} (h:RdAt TR w S rb st) :
  (st=none/\rdRow TR w rb (.slice none 0 0) true)∨∃ rest base cap,st=some rest/\rdRow TR w rb (.slice base rest.length cap) false/\rest.length<=cap/\SrcAt w S base rest:=by
 cases st with
 | none=>exact .inl ⟨rfl,h⟩
 | some rest =>
  obtain ⟨base,cap,h1,h2,h3⟩:=h
  exact .inr ⟨rest,base,cap,rfl,h1,h2,by cases S <;> exact h3⟩
theorem SrcAt.frame {w w':World} {S:Option Nat} {base:Option Addr} {rest:Bytes} (h:SrcAt w S base rest) (hS:∀ sb,S=some sb->w'.heap[sb]?=w.heap[sb]?):SrcAt w' S base rest:=by
 cases S with
 | none=>exact h
 | some sb =>
  obtain ⟨o,h1,h2⟩:=h
  exact ⟨o,h1,fun j u hu=>by rw [World.cell?_of_block (hS sb rfl)];exact h2 j u hu⟩
theorem SrcAt.drop {w:World} {S:Option Nat} {base:Option Addr} {rest:Bytes} {cap n:Nat} (h:SrcAt w S base rest) (hn:n<=rest.length) (hc:rest.length<=cap):SrcAt w S (if cap=n then base else base.map (·.add n)) (rest.drop n):=by
 cases S with
 | none =>
  obtain ⟨rfl,rfl⟩:=h
  simp [SrcAt]
 | some sb =>
  obtain ⟨o,rfl,h2⟩:=h
  by_cases e:cap=n
  ·rw [if_pos e]
   refine ⟨o,rfl,fun j u hu=>?_⟩
   rw [List.drop_of_length_le (by omega)] at hu
   simp at hu
  ·rw [if_neg e]
   refine ⟨o+n,by simp [add_none],fun j u hu=>?_⟩
   rw [List.getElem?_drop] at hu
   rw [show o+n+j=o+(n+j) by omega]
   exact h2 _ u hu
theorem rdAt_drop {TR rb:Nat} {w:World} {S:Option Nat} {base:Option Addr} {rest:Bytes} {cap n:Nat} {v0:Value} (hr:rdRow TR w rb v0 false) (hc:rest.length<=cap) (hs:SrcAt w S base rest) (hS:∀ sb,S=some sb->sb ≠ rb) (hn:n<=rest.length) :
  RdAt TR (w.setRow rb (#[v0,.bool false].setIfInBounds 0 (sliceLo base rest.length cap n))) S rb (some (rest.drop n)):=by
 refine ⟨(if cap=n then base else base.map (·.add n)),cap - n,?_,by rw [List.length_drop];omega,?_⟩
 ·have:=setRow_heap w rb _ (#[v0,.bool false].setIfInBounds 0 (sliceLo base rest.length cap n)) _ _ hr
  rw [this]
  simp [sliceLo,List.length_drop]
 ·have:=(hs.drop hn hc).frame (w':=w.setRow rb (#[v0,.bool false].setIfInBounds 0 (sliceLo base rest.length cap n))) fun sb hsb=>setRow_other _ _ _ _ (hS sb hsb)
  cases S <;> exact this
theorem rdAt_bad {TR rb:Nat} {w:World} {S:Option Nat} {cs:Array Value} {fr:Nat × Nat} {c2:Array Value} (hr:w.heap[rb]?=some (.cells cs TR (0,0))) (h2:c2=#[.slice none 0 0,.bool true]):RdAt TR (w.setRow rb c2) S rb none:=by
 subst h2
 exact setRow_heap _ _ _ _ _ _ hr
def rFail (R:RTy) (t r:Nat) (zero:Value):SC :=
 .seq (.reg [mv t 0,nilc (t+1) t,fa (t+2) R.TR (t+1) 1,⟨none,.store R.Bo (.tmp (t+2)) (.const (.bool true)),none⟩])
  (.seq (.reg [mv (t+3) 0,nilc (t+4) (t+3),fa (t+5) R.TR (t+4) 0,⟨none,.store R.TB (.tmp (t+5)) (.const (.slice none 0 0)),none⟩]) (.seq (.reg [⟨some r,.assign (.const zero),none⟩]) .ret))
theorem rFail_ok {P:Program} {R:RTy} {t r rb:Nat} {zero v:Value} {bad:Bool} {a:Act} {w:World} {S:Option Nat} {Q:Exit->Act->World->Prop} (hR:rdOK P R=true) (hr:rdRow R.TR w rb v bad) (h0:getT a 0=.pointer (some ⟨rb,0,none⟩)) (ht:0 < t) (htN:t+6<=a.tmps.size) (hrN:r < a.tmps.size)
  (hQ:∀ a' w',a'.defers=a.defers->getT a' r=zero->RdAt R.TR w' S rb none->Only rb w w'->Q .ret a' w'):(rFail R t r zero).wp P Q a w:=by
 have hf:=rd_facts hR
 have hrow:w.heap[rb]?=some (.cells #[v,.bool bad] R.TR (0,0)):=hr
 refine wSq (wRg (ops_mv (ops_nilc (ad:=⟨rb,0,none⟩) ?_ (ops_fa (fieldB_of hf.2.1) (b:=rb) (o:=0) ?_ (ops_stR (b:=rb) (i:=1) (v:=.bool true) hf.2.2.2.2.1 ?_ rfl rfl hrow (by simp) (oNi ?_))))))
 ·rw [gTp (by omega)];exact h0
 ·rw [gTp (by rw [sPu];omega)]
 ·rw [eTm,gTp (by simp only [sPu];omega)]
 have hrow2:=setRow_heap w rb _ (#[v,.bool bad].setIfInBounds 1 (.bool true)) _ _ hrow
 simp only [Exit.then]
 refine wSq (wRg (ops_mv (ops_nilc (ad:=⟨rb,0,none⟩) ?_ (ops_fa (fieldB_of hf.1) (b:=rb) (o:=0) ?_ (ops_stR (b:=rb) (i:=0) (v:=.slice none 0 0) hf.2.2.1 ?_ rfl rfl hrow2 (by simp) (oNi ?_))))))
 ·rw [gTp (by simp only [sPu];omega),gTn (by omega),gTn (by omega),gTn (by omega)];exact h0
 ·rw [gTp (by simp only [sPu];omega)]
 ·rw [eTm,gTp (by simp only [sPu];omega)]
 simp only [Exit.then]
 refine wSq (wRg (oNo rfl (opw_assign (oNi ?_))))
 rw [eCo]
 simp only [Exit.then]
 refine wRt (hQ _ _ (by simp [dPu]) (by rw [gTp (by simp only [sPu];omega)]) ?_ (((Only.refl rb w).setRow _).setRow _))
 refine rdAt_bad (fr:=(0,0)) hrow2 ?_
 simp
def sc_ROk (R:RTy):SC:=.seq (.reg [⟨some 2,.assign (.const (.bool false)),none⟩]) (.seq (.reg [mv 3 0,nilc 4 3,fa 5 R.TR 4 1,ld 6 R.Bo 5,⟨some 7,.unOp .not R.Bo (.tmp 6),none⟩,asg 2 7]) (.ret))
def sc_RComplete (R:RTy) (T2 G0:Nat):SC:=.seq (.reg [⟨some 2,.assign (.const .nilIface),none⟩]) (.seq (.seq (.reg [mv 3 0,nilc 4 3,fa 5 R.TR 4 1,ld 6 R.Bo 5]) (.cond (.tmp 6) (.seq (.reg [⟨some 7,.load T2 (.global G0),none⟩,asg 2 7]) (.ret)) (.skip))) (.seq (.reg [⟨some 2,.assign (.const .nilIface),none⟩]) (.ret)))
section
variable {P:Program} {R:RTy} {f:FuncId} {fn:Func}
theorem rOk_ok (hR:rdOK P R=true) (hf:P.funcs[f]?=some fn) (hb:fn.body.map strip=some (sc_ROk R)) (hn:fn.ntmps=8) (hr:fn.results=#[.tmp 2]) (w:World) (S:Option Nat) (rb:Nat) (st:Option Bytes) (h:RdAt R.TR w S rb st) :
  Calls P f #[.pointer (some ⟨rb,0,none⟩)] w fun e w'=>e=.returned (.bool st.isSome)/\w'=w:=by
 have hst:=rd_facts hR
 obtain ⟨v,hrow⟩:∃ v,rdRow R.TR w rb v (!st.isSome):=by
  rcases rdAt_row h with ⟨rfl,h1⟩ | ⟨rest,base,cap,rfl,h1,_⟩
  ·exact ⟨_,h1⟩
  ·exact ⟨_,h1⟩
 have hc:=rdRow_cells hrow
 refine fCa hf hb hn (by simp) fun a0 hs hd ha=>?_
 have h0:=ha 0 _ rfl
 simp only [List.getElem_toArray,List.getElem_cons_zero,List.getElem_cons_succ] at h0
 refine wSq (wRg ?_)
 repeat (apply ops_1;(focus (simp (disch:=(try simp only [sPu]);omega) ;try rfl)))
 refine oNi (wSq (wRg ?_))
 repeat (apply ops_1;(focus (simp (disch:=(try simp only [sPu]);omega) [hst,h0,hc];try rfl)))
 refine oNi (wRt (ret_tmp hr (by simp [dPu,hd]) ⟨?_,rfl⟩))
 simp (disch:=(try simp only [sPu]);omega)
theorem rComplete_ok {T2 G0:Nat} {err:Value} (hR:rdOK P R=true) (hT:oneB P T2=true) (hG:P.globals.size > G0∨True) (hf:P.funcs[f]?=some fn) (hb:fn.body.map strip=some (sc_RComplete R T2 G0)) (hn:fn.ntmps=8) (hr:fn.results=#[.tmp 2]) (w:World) (S:Option Nat) (rb:Nat) (st:Option Bytes)
  (hg:w.cell? ⟨G0,0,none⟩=some err) (h:RdAt R.TR w S rb st) :
  Calls P f #[.pointer (some ⟨rb,0,none⟩)] w fun e w'=>e=.returned (if st.isSome then .nilIface else err)/\w'=w:=by
 have hst:=rd_facts hR
 obtain ⟨v,hrow⟩:∃ v,rdRow R.TR w rb v (!st.isSome):=by
  rcases rdAt_row h with ⟨rfl,h1⟩ | ⟨rest,base,cap,rfl,h1,_⟩
  ·exact ⟨_,h1⟩
  ·exact ⟨_,h1⟩
 have hc:=rdRow_cells hrow
 refine fCa hf hb hn (by simp) fun a0 hs hd ha=>?_
 have h0:=ha 0 _ rfl
 simp only [List.getElem_toArray,List.getElem_cons_zero,List.getElem_cons_succ] at h0
 refine wSq (wRg ?_)
 repeat (apply ops_1;(focus (simp (disch:=(try simp only [sPu]);omega) ;try rfl)))
 refine oNi (wSq (wSq (wRg ?_)))
 repeat (apply ops_1;(focus (simp (disch:=(try simp only [sPu]);omega) [hst,h0,hc];try rfl)))
 refine oNi (wCd (t:=!st.isSome) (by simp (disch:=(try simp only [sPu]);omega)) ?_)
 cases hs1:st.isSome with
 | false =>
  simp only [Bool.not_false,if_true]
  refine wSq (wRg (oNo rfl (opw_load_one (ad:=⟨G0,0,none⟩) hT rfl hg ?_)))
  repeat (apply ops_1;(focus (simp (disch:=(try simp only [sPu]);omega) ;try rfl)))
  refine oNi (wRt ?_)
  simp only [Exit.then]
  refine ret_tmp hr (by simp [dPu,hd]) ⟨?_,rfl⟩
  simp (disch:=(try simp only [sPu]);omega)
 | true =>
  simp only [Bool.not_true,Bool.false_eq_true,if_false]
  refine wSk ?_
  simp only [Exit.then]
  refine wSq (wRg ?_)
  repeat (apply ops_1;(focus (simp (disch:=(try simp only [sPu]);omega) ;try rfl)))
  refine oNi (wRt (ret_tmp hr (by simp [dPu,hd]) ⟨?_,rfl⟩))
  simp (disch:=(try simp only [sPu]);omega)
end
set_option maxHeartbeats 2000000
def sc_BE16 (T0 T1 T2 T3 T4:Nat):SC:=.seq (.reg [⟨some 2,.box T0 (.tmp 0),none⟩,⟨some 4,.assign (.const (.int .u16 0)),none⟩]) (.seq (.reg [mv 5 1,⟨some 6,.indexAddr T1 (.tmp 5) (.const (.int .i64 1)),none⟩,ld 7 T2 6]) (.seq (.dreg [mv 8 1,⟨some 9,.indexAddr T1 (.tmp 8) (.const (.int .i64 1)),none⟩,ld 10 T2 9,⟨some 11,.convert T2 T3 (.tmp 10),none⟩,mv 12 1,⟨some 13,.indexAddr T1 (.tmp 12) (.const (.int .i64 0)),none⟩,ld 14 T2 13,⟨some 15,.convert T2 T3 (.tmp 14),none⟩,⟨some 16,.binOp .shl T3 (.tmp 15) (.const (.int .u64 8)) T4,none⟩,⟨some 17,.binOp .or T3 (.tmp 11) (.tmp 16) T3,none⟩,asg 4 17] [[],[0],[1],[2],[],[4],[5],[6],[7],[3,8],[9,0,1,2,3,4,5,6,7,8,9]]) (.ret)))
def sc_BE32 (T0 T1 T2 T3 T4:Nat):SC:=.seq (.reg [⟨some 2,.box T0 (.tmp 0),none⟩,⟨some 4,.assign (.const (.int .u32 0)),none⟩]) (.seq (.reg [mv 5 1,⟨some 6,.indexAddr T1 (.tmp 5) (.const (.int .i64 3)),none⟩,ld 7 T2 6]) (.seq (.dreg [mv 8 1,⟨some 9,.indexAddr T1 (.tmp 8) (.const (.int .i64 3)),none⟩,ld 10 T2 9,⟨some 11,.convert T2 T3 (.tmp 10),none⟩,mv 12 1,⟨some 13,.indexAddr T1 (.tmp 12) (.const (.int .i64 2)),none⟩,ld 14 T2 13,⟨some 15,.convert T2 T3 (.tmp 14),none⟩,⟨some 16,.binOp .shl T3 (.tmp 15) (.const (.int .u64 8)) T4,none⟩,⟨some 17,.binOp .or T3 (.tmp 11) (.tmp 16) T3,none⟩,mv 18 1,⟨some 19,.indexAddr T1 (.tmp 18) (.const (.int .i64 1)),none⟩,ld 20 T2 19,⟨some 21,.convert T2 T3 (.tmp 20),none⟩,⟨some 22,.binOp .shl T3 (.tmp 21) (.const (.int .u64 16)) T4,none⟩,⟨some 23,.binOp .or T3 (.tmp 17) (.tmp 22) T3,none⟩,mv 24 1,⟨some 25,.indexAddr T1 (.tmp 24) (.const (.int .i64 0)),none⟩,ld 26 T2 25,⟨some 27,.convert T2 T3 (.tmp 26),none⟩,⟨some 28,.binOp .shl T3 (.tmp 27) (.const (.int .u64 24)) T4,none⟩,⟨some 29,.binOp .or T3 (.tmp 23) (.tmp 28) T3,none⟩,asg 4 29] [[],[0],[1],[2],[],[4],[5],[6],[7],[3,8],[],[10],[11],[12],[13],[9,14],[],[16],[17],[18],[19],[15,20],[21,0,1,2,3,4,5,6,7,8,9,10,11,12,13,14,15,16,17,18,19,20,21]]) (.ret)))
def sc_BE64 (T0 T1 T2 T3 T4:Nat):SC:=.seq (.reg [⟨some 2,.box T0 (.tmp 0),none⟩,⟨some 4,.assign (.const (.int .u64 0)),none⟩]) (.seq (.reg [mv 5 1,⟨some 6,.indexAddr T1 (.tmp 5) (.const (.int .i64 7)),none⟩,ld 7 T2 6]) (.seq (.dreg [mv 8 1,⟨some 9,.indexAddr T1 (.tmp 8) (.const (.int .i64 7)),none⟩,ld 10 T2 9,⟨some 11,.convert T2 T3 (.tmp 10),none⟩,mv 12 1,⟨some 13,.indexAddr T1 (.tmp 12) (.const (.int .i64 6)),none⟩,ld 14 T2 13,⟨some 15,.convert T2 T3 (.tmp 14),none⟩,⟨some 16,.binOp .shl T3 (.tmp 15) (.const (.int .u64 8)) T4,none⟩,⟨some 17,.binOp .or T3 (.tmp 11) (.tmp 16) T3,none⟩,mv 18 1,⟨some 19,.indexAddr T1 (.tmp 18) (.const (.int .i64 5)),none⟩,ld 20 T2 19,⟨some 21,.convert T2 T3 (.tmp 20),none⟩,⟨some 22,.binOp .shl T3 (.tmp 21) (.const (.int .u64 16)) T4,none⟩,⟨some 23,.binOp .or T3 (.tmp 17) (.tmp 22) T3,none⟩,mv 24 1,⟨some 25,.indexAddr T1 (.tmp 24) (.const (.int .i64 4)),none⟩,ld 26 T2 25,⟨some 27,.convert T2 T3 (.tmp 26),none⟩,⟨some 28,.binOp .shl T3 (.tmp 27) (.const (.int .u64 24)) T4,none⟩,⟨some 29,.binOp .or T3 (.tmp 23) (.tmp 28) T3,none⟩,mv 30 1,⟨some 31,.indexAddr T1 (.tmp 30) (.const (.int .i64 3)),none⟩,ld 32 T2 31,⟨some 33,.convert T2 T3 (.tmp 32),none⟩,⟨some 34,.binOp .shl T3 (.tmp 33) (.const (.int .u64 32)) T4,none⟩,⟨some 35,.binOp .or T3 (.tmp 29) (.tmp 34) T3,none⟩,mv 36 1,⟨some 37,.indexAddr T1 (.tmp 36) (.const (.int .i64 2)),none⟩,ld 38 T2 37,⟨some 39,.convert T2 T3 (.tmp 38),none⟩,⟨some 40,.binOp .shl T3 (.tmp 39) (.const (.int .u64 40)) T4,none⟩,⟨some 41,.binOp .or T3 (.tmp 35) (.tmp 40) T3,none⟩,mv 42 1,⟨some 43,.indexAddr T1 (.tmp 42) (.const (.int .i64 1)),none⟩,ld 44 T2 43,⟨some 45,.convert T2 T3 (.tmp 44),none⟩,⟨some 46,.binOp .shl T3 (.tmp 45) (.const (.int .u64 48)) T4,none⟩,⟨some 47,.binOp .or T3 (.tmp 41) (.tmp 46) T3,none⟩,mv 48 1,⟨some 49,.indexAddr T1 (.tmp 48) (.const (.int .i64 0)),none⟩,ld 50 T2 49,⟨some 51,.convert T2 T3 (.tmp 50),none⟩,⟨some 52,.binOp .shl T3 (.tmp 51) (.const (.int .u64 56)) T4,none⟩,⟨some 53,.binOp .or T3 (.tmp 47) (.tmp 52) T3,none⟩,asg 4 53] [[],[0],[1],[2],[],[4],[5],[6],[7],[3,8],[],[10],[11],[12],[13],[9,14],[],[16],[17],[18],[19],[15,20],[],[22],[23],[24],[25],[21,26],[],[28],[29],[30],[31],[27,32],[],[34],[35],[36],[37],[33,38],[],[40],[41],[42],[43],[39,44],[45,0,1,2,3,4,5,6,7,8,9,10,11,12,13,14,15,16,17,18,19,20,21,22,23,24,25,26,27,28,29,30,31,32,33,34,35,36,37,38,39,40,41,42,43,44,45]]) (.ret)))
theorem or_add {bits a b s:Nat} (ha:a < 2 ^ s) (h:a+b * 2 ^ s < 2 ^ bits):(BitVec.ofInt bits (a:Int) ||| BitVec.ofInt bits ((b:Int) * (2 ^ s:Nat))).toNat=a+b * 2 ^ s:=by
 have e1:(BitVec.ofInt bits (a:Int)).toNat=a:=by
  rw [BitVec.ofInt_natCast,BitVec.toNat_ofNat]
  exact Nat.mod_eq_of_lt (by omega)
 have e2:(BitVec.ofInt bits ((b:Int) * (2 ^ s:Nat))).toNat=b * 2 ^ s:=by
  rw [<- Int.natCast_mul,BitVec.ofInt_natCast,BitVec.toNat_ofNat]
  exact Nat.mod_eq_of_lt (by omega)
 rw [BitVec.toNat_or,e1,e2,Nat.or_comm,Nat.mul_comm b,<- Nat.two_pow_add_eq_or_of_lt ha b]
 omega
theorem or_add2 {bits a b s:Nat} {A B:Int} (hA:A=(a:Int)) (hB:B=((b * 2 ^ s:Nat):Int)) (ha:a < 2 ^ s) (h:a+b * 2 ^ s < 2 ^ bits):(BitVec.ofInt bits A ||| BitVec.ofInt bits B).toNat=a+b * 2 ^ s:=by
 subst hA hB
 rw [Int.natCast_mul]
 exact or_add ha h
theorem wrap_uN {k:IntKind} (hk:k.signed=false) {n:Nat} (h:n < 2 ^ k.bits):k.wrap (n:Int)=n:=by
 cases k <;> simp [IntKind.signed] at hk <;> simp only [IntKind.wrap,IntKind.bits,IntKind.signed] at h ⊢ <;> simp <;> omega
theorem be2_ok {P:Program} {f:FuncId} {fn:Func} {R:RTy} {T0 T3 T4:Nat} (hm:P.follows .mixedOrders=true) (hR:rdOK P R=true) (hi3:intK P T3=some .u16) (hf:P.funcs[f]?=some fn) (hb:fn.body.map strip=some (sc_BE16 T0 R.TB R.U8 T3 T4)) (hn:fn.ntmps=18) (hr:fn.results=#[.tmp 4])
  (w:World) (sb q len cap:Nat) (u0 u1:UInt8) (hlen:2<=len) (hsb:sb < w.heap.size) (hc:∀ j u,[u0,u1][j]?=some u->w.cell? ⟨sb,q+j,none⟩=some (cell u)) :
  Calls P f #[.agg #[],.slice (some ⟨sb,q,none⟩) len cap] w fun e w'=>e=.returned (.int .u16 ((unfix [u0,u1]:Nat):Int))/\Below w.heap.size w w':=by
 have hst:=rd_facts hR
 refine fCa hf hb hn (by simp) fun a0 hs hd ha=>?_
 have h0:=ha 0 _ rfl
 have h1:=ha 1 _ rfl
 simp only [List.getElem_toArray,List.getElem_cons_zero,List.getElem_cons_succ] at h0 h1
 have c0:=hc 0 u0 rfl
 have c1:=hc 1 u1 rfl
 simp only [cell,Nat.add_zero] at c0 c1
 have hlt:u0.toNat < 256/\u1.toNat < 256:=⟨u0.toNat_lt,u1.toNat_lt⟩
 refine wSq (wRg (oNo rfl (opw_box h0 ?_)))
 repeat (apply ops_1;(focus (simp (disch:=(try simp only [sPu]);omega) ;try rfl)))
 refine oNi ?_
 simp only [Exit.then]
 generalize hw1:w.alloc (.cells (Value.agg #[]).cells T0)=w1
 have hb1:Below w.heap.size w w1:=by rw [<- hw1];exact (Below.refl _ _).alloc (Nat.le_refl _) _
 have hl1:sb < w1.heap.size:=Nat.lt_of_lt_of_le hsb hb1.size
 have d0:w1.cell? ⟨sb,q,none⟩=some (.int .u8 (u0.toNat:Int)):=by rw [hb1.cell (p:=⟨sb,q,none⟩) hsb];exact c0
 have d1:w1.cell? ⟨sb,q+1,none⟩=some (.int .u8 (u1.toNat:Int)):=by rw [hb1.cell (p:=⟨sb,q+1,none⟩) hsb];exact c1
 have g0:0 < len:=by omega
 have g1:(1:Int) < (len:Int):=by omega
 have x0:IntKind.u16.wrap (u0.toNat:Int)=(u0.toNat:Int):=wrap_uN rfl (by have:=u0.toNat_lt;simp only [IntKind.bits];omega)
 have x1:IntKind.u16.wrap (u1.toNat:Int)=(u1.toNat:Int):=wrap_uN rfl (by have:=u1.toNat_lt;simp only [IntKind.bits];omega)
 have s0:IntKind.u16.wrap ((u0.toNat:Int) * 256)=(u0.toNat:Int) * 256:=by
  have:=wrap_uN (k:=.u16) rfl (n:=u0.toNat * 256) (by have:=u0.toNat_lt;simp only [IntKind.bits];omega)
  simpa using this
 have o0:IntKind.u16.wrap ((BitVec.ofInt IntKind.u16.bits ((u1.toNat:Int)) ||| BitVec.ofInt IntKind.u16.bits ((u0.toNat:Int) * 256)).toNat:Int)=(u1.toNat:Int)+(u0.toNat:Int) * 256:=by
  rw [or_add2 (a:=u1.toNat) (b:=u0.toNat) (s:=8) (by omega) (by omega) (by omega) (by simp only [IntKind.bits];omega)]
  rw [wrap_uN (k:=.u16) rfl (n:=u1.toNat+u0.toNat * 2 ^ 8) (by simp only [IntKind.bits];omega)]
  omega
 have b1:8<=IntKind.u16.bits:=by decide
 refine wSq (wRg ?_)
 repeat (apply ops_1;(focus (simp (disch:=(try simp only [sPu]);omega) [hst,h1,hi3,hl1,d0,g0,x0,d1,g1,x1,s0,o0,b1];try rfl)))
 refine oNi ?_
 simp only [Exit.then]
 refine wSq (wDr hm (Below w1.heap.size w1.drew) [(0,true),(1,true),(2,true),(3,true),(4,true),(5,true),(6,true),(7,true),(8,true),(9,true),(10,true)] (by rfl) (by rfl) (by decide) (Below.refl _ _) ?_)
 have e0:w1.drew.cell? ⟨sb,q,none⟩=some (.int .u8 (u0.toNat:Int)):=d0
 have e1:w1.drew.cell? ⟨sb,q+1,none⟩=some (.int .u8 (u1.toNat:Int)):=d1
 repeat (apply dr_1;(focus rfl);(focus (simp (disch:=(try simp only [sPu]);omega) [hst,h1,hi3,hl1,e0,g0,x0,e1,g1,x1,s0,o0,b1,-BitVec.toNat_or,-BitVec.ofInt_natCast,-BitVec.toNat_ofInt,-BitVec.toNat_ofNat];try rfl)))
 refine dreg_nil ?_
 simp only [Exit.then]
 refine wRt (ret_tmp hr (by simp [dPu,hd]) ⟨?_,hb1.drew⟩)
 simp (disch:=(try simp only [sPu]);omega) [-BitVec.toNat_or,-BitVec.ofInt_natCast,-BitVec.toNat_ofInt,-BitVec.toNat_ofNat]
 simp only [unfix,List.length_cons,List.length_nil,Nat.reduceAdd,Nat.reducePow]
 omega
theorem be4_ok {P:Program} {f:FuncId} {fn:Func} {R:RTy} {T0 T3 T4:Nat} (hm:P.follows .mixedOrders=true) (hR:rdOK P R=true) (hi3:intK P T3=some .u32) (hf:P.funcs[f]?=some fn) (hb:fn.body.map strip=some (sc_BE32 T0 R.TB R.U8 T3 T4)) (hn:fn.ntmps=30) (hr:fn.results=#[.tmp 4])
  (w:World) (sb q len cap:Nat) (u0 u1 u2 u3:UInt8) (hlen:4<=len) (hsb:sb < w.heap.size) (hc:∀ j u,[u0,u1,u2,u3][j]?=some u->w.cell? ⟨sb,q+j,none⟩=some (cell u)) :
  Calls P f #[.agg #[],.slice (some ⟨sb,q,none⟩) len cap] w fun e w'=>e=.returned (.int .u32 ((unfix [u0,u1,u2,u3]:Nat):Int))/\Below w.heap.size w w':=by
 have hst:=rd_facts hR
 refine fCa hf hb hn (by simp) fun a0 hs hd ha=>?_
 have h0:=ha 0 _ rfl
 have h1:=ha 1 _ rfl
 simp only [List.getElem_toArray,List.getElem_cons_zero,List.getElem_cons_succ] at h0 h1
 have c0:=hc 0 u0 rfl
 have c1:=hc 1 u1 rfl
 have c2:=hc 2 u2 rfl
 have c3:=hc 3 u3 rfl
 simp only [cell,Nat.add_zero] at c0 c1 c2 c3
 have hlt:u0.toNat < 256/\u1.toNat < 256/\u2.toNat < 256/\u3.toNat < 256:=⟨u0.toNat_lt,u1.toNat_lt,u2.toNat_lt,u3.toNat_lt⟩
 refine wSq (wRg (oNo rfl (opw_box h0 ?_)))
 repeat (apply ops_1;(focus (simp (disch:=(try simp only [sPu]);omega) ;try rfl)))
 refine oNi ?_
 simp only [Exit.then]
 generalize hw1:w.alloc (.cells (Value.agg #[]).cells T0)=w1
 have hb1:Below w.heap.size w w1:=by rw [<- hw1];exact (Below.refl _ _).alloc (Nat.le_refl _) _
 have hl1:sb < w1.heap.size:=Nat.lt_of_lt_of_le hsb hb1.size
 have d0:w1.cell? ⟨sb,q,none⟩=some (.int .u8 (u0.toNat:Int)):=by rw [hb1.cell (p:=⟨sb,q,none⟩) hsb];exact c0
 have d1:w1.cell? ⟨sb,q+1,none⟩=some (.int .u8 (u1.toNat:Int)):=by rw [hb1.cell (p:=⟨sb,q+1,none⟩) hsb];exact c1
 have d2:w1.cell? ⟨sb,q+2,none⟩=some (.int .u8 (u2.toNat:Int)):=by rw [hb1.cell (p:=⟨sb,q+2,none⟩) hsb];exact c2
 have d3:w1.cell? ⟨sb,q+3,none⟩=some (.int .u8 (u3.toNat:Int)):=by rw [hb1.cell (p:=⟨sb,q+3,none⟩) hsb];exact c3
 have g0:0 < len:=by omega
 have g1:(1:Int) < (len:Int):=by omega
 have g2:(2:Int) < (len:Int):=by omega
 have g3:(3:Int) < (len:Int):=by omega
 have x0:IntKind.u32.wrap (u0.toNat:Int)=(u0.toNat:Int):=wrap_uN rfl (by have:=u0.toNat_lt;simp only [IntKind.bits];omega)
 have x1:IntKind.u32.wrap (u1.toNat:Int)=(u1.toNat:Int):=wrap_uN rfl (by have:=u1.toNat_lt;simp only [IntKind.bits];omega)
 have x2:IntKind.u32.wrap (u2.toNat:Int)=(u2.toNat:Int):=wrap_uN rfl (by have:=u2.toNat_lt;simp only [IntKind.bits];omega)
 have x3:IntKind.u32.wrap (u3.toNat:Int)=(u3.toNat:Int):=wrap_uN rfl (by have:=u3.toNat_lt;simp only [IntKind.bits];omega)
 have s2:IntKind.u32.wrap ((u2.toNat:Int) * 256)=(u2.toNat:Int) * 256:=by
  have:=wrap_uN (k:=.u32) rfl (n:=u2.toNat * 256) (by have:=u2.toNat_lt;simp only [IntKind.bits];omega)
  simpa using this
 have s1:IntKind.u32.wrap ((u1.toNat:Int) * 65536)=(u1.toNat:Int) * 65536:=by
  have:=wrap_uN (k:=.u32) rfl (n:=u1.toNat * 65536) (by have:=u1.toNat_lt;simp only [IntKind.bits];omega)
  simpa using this
 have s0:IntKind.u32.wrap ((u0.toNat:Int) * 16777216)=(u0.toNat:Int) * 16777216:=by
  have:=wrap_uN (k:=.u32) rfl (n:=u0.toNat * 16777216) (by have:=u0.toNat_lt;simp only [IntKind.bits];omega)
  simpa using this
 have o2:IntKind.u32.wrap ((BitVec.ofInt IntKind.u32.bits ((u3.toNat:Int)) ||| BitVec.ofInt IntKind.u32.bits ((u2.toNat:Int) * 256)).toNat:Int)=(u3.toNat:Int)+(u2.toNat:Int) * 256:=by
  rw [or_add2 (a:=u3.toNat) (b:=u2.toNat) (s:=8) (by omega) (by omega) (by omega) (by simp only [IntKind.bits];omega)]
  rw [wrap_uN (k:=.u32) rfl (n:=u3.toNat+u2.toNat * 2 ^ 8) (by simp only [IntKind.bits];omega)]
  omega
 have o1:IntKind.u32.wrap ((BitVec.ofInt IntKind.u32.bits ((u3.toNat:Int)+(u2.toNat:Int) * 256) ||| BitVec.ofInt IntKind.u32.bits ((u1.toNat:Int) * 65536)).toNat:Int)=(u3.toNat:Int)+(u2.toNat:Int) * 256+(u1.toNat:Int) * 65536:=by
  rw [or_add2 (a:=u3.toNat+u2.toNat * 256) (b:=u1.toNat) (s:=16) (by omega) (by omega) (by omega) (by simp only [IntKind.bits];omega)]
  rw [wrap_uN (k:=.u32) rfl (n:=u3.toNat+u2.toNat * 256+u1.toNat * 2 ^ 16) (by simp only [IntKind.bits];omega)]
  omega
 have o0:IntKind.u32.wrap ((BitVec.ofInt IntKind.u32.bits ((u3.toNat:Int)+(u2.toNat:Int) * 256+(u1.toNat:Int) * 65536) ||| BitVec.ofInt IntKind.u32.bits ((u0.toNat:Int) * 16777216)).toNat:Int)=(u3.toNat:Int)+(u2.toNat:Int) * 256+(u1.toNat:Int) * 65536+(u0.toNat:Int) * 16777216:=by
  rw [or_add2 (a:=u3.toNat+u2.toNat * 256+u1.toNat * 65536) (b:=u0.toNat) (s:=24) (by omega) (by omega) (by omega) (by simp only [IntKind.bits];omega)]
  rw [wrap_uN (k:=.u32) rfl (n:=u3.toNat+u2.toNat * 256+u1.toNat * 65536+u0.toNat * 2 ^ 24) (by simp only [IntKind.bits];omega)]
  omega
 have b1:8<=IntKind.u32.bits:=by decide
 have b2:16<=IntKind.u32.bits:=by decide
 have b3:24<=IntKind.u32.bits:=by decide
 refine wSq (wRg ?_)
 repeat (apply ops_1;(focus (simp (disch:=(try simp only [sPu]);omega) [hst,h1,hi3,hl1,d0,g0,x0,d1,g1,x1,d2,g2,x2,d3,g3,x3,s0,o0,s1,o1,s2,o2,b1,b2,b3];try rfl)))
 refine oNi ?_
 simp only [Exit.then]
 refine wSq (wDr hm (Below w1.heap.size w1.drew) [(0,true),(1,true),(2,true),(3,true),(4,true),(5,true),(6,true),(7,true),(8,true),(9,true),(10,true),(11,true),(12,true),(13,true),(14,true),(15,true),(16,true),(17,true),(18,true),(19,true),(20,true),(21,true),(22,true)] (by rfl) (by rfl) (by decide) (Below.refl _ _) ?_)
 have e0:w1.drew.cell? ⟨sb,q,none⟩=some (.int .u8 (u0.toNat:Int)):=d0
 have e1:w1.drew.cell? ⟨sb,q+1,none⟩=some (.int .u8 (u1.toNat:Int)):=d1
 have e2:w1.drew.cell? ⟨sb,q+2,none⟩=some (.int .u8 (u2.toNat:Int)):=d2
 have e3:w1.drew.cell? ⟨sb,q+3,none⟩=some (.int .u8 (u3.toNat:Int)):=d3
 repeat (apply dr_1;(focus rfl);(focus (simp (disch:=(try simp only [sPu]);omega) [hst,h1,hi3,hl1,e0,g0,x0,e1,g1,x1,e2,g2,x2,e3,g3,x3,s0,o0,s1,o1,s2,o2,b1,b2,b3,-BitVec.toNat_or,-BitVec.ofInt_natCast,-BitVec.toNat_ofInt,-BitVec.toNat_ofNat];try rfl)))
 refine dreg_nil ?_
 simp only [Exit.then]
 refine wRt (ret_tmp hr (by simp [dPu,hd]) ⟨?_,hb1.drew⟩)
 simp (disch:=(try simp only [sPu]);omega) [-BitVec.toNat_or,-BitVec.ofInt_natCast,-BitVec.toNat_ofInt,-BitVec.toNat_ofNat]
 simp only [unfix,List.length_cons,List.length_nil,Nat.reduceAdd,Nat.reducePow]
 omega
theorem be8_ok {P:Program} {f:FuncId} {fn:Func} {R:RTy} {T0 T3 T4:Nat} (hm:P.follows .mixedOrders=true) (hR:rdOK P R=true) (hi3:intK P T3=some .u64) (hf:P.funcs[f]?=some fn) (hb:fn.body.map strip=some (sc_BE64 T0 R.TB R.U8 T3 T4)) (hn:fn.ntmps=54) (hr:fn.results=#[.tmp 4])
  (w:World) (sb q len cap:Nat) (u0 u1 u2 u3 u4 u5 u6 u7:UInt8) (hlen:8<=len) (hsb:sb < w.heap.size) (hc:∀ j u,[u0,u1,u2,u3,u4,u5,u6,u7][j]?=some u->w.cell? ⟨sb,q+j,none⟩=some (cell u)) :
  Calls P f #[.agg #[],.slice (some ⟨sb,q,none⟩) len cap] w fun e w'=>e=.returned (.int .u64 ((unfix [u0,u1,u2,u3,u4,u5,u6,u7]:Nat):Int))/\Below w.heap.size w w':=by
 have hst:=rd_facts hR
 refine fCa hf hb hn (by simp) fun a0 hs hd ha=>?_
 have h0:=ha 0 _ rfl
 have h1:=ha 1 _ rfl
 simp only [List.getElem_toArray,List.getElem_cons_zero,List.getElem_cons_succ] at h0 h1
 have c0:=hc 0 u0 rfl
 have c1:=hc 1 u1 rfl
 have c2:=hc 2 u2 rfl
 have c3:=hc 3 u3 rfl
 have c4:=hc 4 u4 rfl
 have c5:=hc 5 u5 rfl
 have c6:=hc 6 u6 rfl
 have c7:=hc 7 u7 rfl
 simp only [cell,Nat.add_zero] at c0 c1 c2 c3 c4 c5 c6 c7
 have hlt:u0.toNat < 256/\u1.toNat < 256/\u2.toNat < 256/\u3.toNat < 256/\u4.toNat < 256/\u5.toNat < 256/\u6.toNat < 256/\u7.toNat < 256:=⟨u0.toNat_lt,u1.toNat_lt,u2.toNat_lt,u3.toNat_lt,u4.toNat_lt,u5.toNat_lt,u6.toNat_lt,u7.toNat_lt⟩
 refine wSq (wRg (oNo rfl (opw_box h0 ?_)))
 repeat (apply ops_1;(focus (simp (disch:=(try simp only [sPu]);omega) ;try rfl)))
 refine oNi ?_
 simp only [Exit.then]
 generalize hw1:w.alloc (.cells (Value.agg #[]).cells T0)=w1
 have hb1:Below w.heap.size w w1:=by rw [<- hw1];exact (Below.refl _ _).alloc (Nat.le_refl _) _
 have hl1:sb < w1.heap.size:=Nat.lt_of_lt_of_le hsb hb1.size
 have d0:w1.cell? ⟨sb,q,none⟩=some (.int .u8 (u0.toNat:Int)):=by rw [hb1.cell (p:=⟨sb,q,none⟩) hsb];exact c0
 have d1:w1.cell? ⟨sb,q+1,none⟩=some (.int .u8 (u1.toNat:Int)):=by rw [hb1.cell (p:=⟨sb,q+1,none⟩) hsb];exact c1
 have d2:w1.cell? ⟨sb,q+2,none⟩=some (.int .u8 (u2.toNat:Int)):=by rw [hb1.cell (p:=⟨sb,q+2,none⟩) hsb];exact c2
 have d3:w1.cell? ⟨sb,q+3,none⟩=some (.int .u8 (u3.toNat:Int)):=by rw [hb1.cell (p:=⟨sb,q+3,none⟩) hsb];exact c3
 have d4:w1.cell? ⟨sb,q+4,none⟩=some (.int .u8 (u4.toNat:Int)):=by rw [hb1.cell (p:=⟨sb,q+4,none⟩) hsb];exact c4
 have d5:w1.cell? ⟨sb,q+5,none⟩=some (.int .u8 (u5.toNat:Int)):=by rw [hb1.cell (p:=⟨sb,q+5,none⟩) hsb];exact c5
 have d6:w1.cell? ⟨sb,q+6,none⟩=some (.int .u8 (u6.toNat:Int)):=by rw [hb1.cell (p:=⟨sb,q+6,none⟩) hsb];exact c6
 have d7:w1.cell? ⟨sb,q+7,none⟩=some (.int .u8 (u7.toNat:Int)):=by rw [hb1.cell (p:=⟨sb,q+7,none⟩) hsb];exact c7
 have g0:0 < len:=by omega
 have g1:(1:Int) < (len:Int):=by omega
 have g2:(2:Int) < (len:Int):=by omega
 have g3:(3:Int) < (len:Int):=by omega
 have g4:(4:Int) < (len:Int):=by omega
 have g5:(5:Int) < (len:Int):=by omega
 have g6:(6:Int) < (len:Int):=by omega
 have g7:(7:Int) < (len:Int):=by omega
 have x0:IntKind.u64.wrap (u0.toNat:Int)=(u0.toNat:Int):=wrap_uN rfl (by have:=u0.toNat_lt;simp only [IntKind.bits];omega)
 have x1:IntKind.u64.wrap (u1.toNat:Int)=(u1.toNat:Int):=wrap_uN rfl (by have:=u1.toNat_lt;simp only [IntKind.bits];omega)
 have x2:IntKind.u64.wrap (u2.toNat:Int)=(u2.toNat:Int):=wrap_uN rfl (by have:=u2.toNat_lt;simp only [IntKind.bits];omega)
 have x3:IntKind.u64.wrap (u3.toNat:Int)=(u3.toNat:Int):=wrap_uN rfl (by have:=u3.toNat_lt;simp only [IntKind.bits];omega)
 have x4:IntKind.u64.wrap (u4.toNat:Int)=(u4.toNat:Int):=wrap_uN rfl (by have:=u4.toNat_lt;simp only [IntKind.bits];omega)
 have x5:IntKind.u64.wrap (u5.toNat:Int)=(u5.toNat:Int):=wrap_uN rfl (by have:=u5.toNat_lt;simp only [IntKind.bits];omega)
 have x6:IntKind.u64.wrap (u6.toNat:Int)=(u6.toNat:Int):=wrap_uN rfl (by have:=u6.toNat_lt;simp only [IntKind.bits];omega)
 have x7:IntKind.u64.wrap (u7.toNat:Int)=(u7.toNat:Int):=wrap_uN rfl (by have:=u7.toNat_lt;simp only [IntKind.bits];omega)
 have s6:IntKind.u64.wrap ((u6.toNat:Int) * 256)=(u6.toNat:Int) * 256:=by
  have:=wrap_uN (k:=.u64) rfl (n:=u6.toNat * 256) (by have:=u6.toNat_lt;simp only [IntKind.bits];omega)
  simpa using this
 have s5:IntKind.u64.wrap ((u5.toNat:Int) * 65536)=(u5.toNat:Int) * 65536:=by
  have:=wrap_uN (k:=.u64) rfl (n:=u5.toNat * 65536) (by have:=u5.toNat_lt;simp only [IntKind.bits];omega)
  simpa using this
 have s4:IntKind.u64.wrap ((u4.toNat:Int) * 16777216)=(u4.toNat:Int) * 16777216:=by
  have:=wrap_uN (k:=.u64) rfl (n:=u4.toNat * 16777216) (by have:=u4.toNat_lt;simp only [IntKind.bits];omega)
  simpa using this
 have s3:IntKind.u64.wrap ((u3.toNat:Int) * 4294967296)=(u3.toNat:Int) * 4294967296:=by
  have:=wrap_uN (k:=.u64) rfl (n:=u3.toNat * 4294967296) (by have:=u3.toNat_lt;simp only [IntKind.bits];omega)
  simpa using this
 have s2:IntKind.u64.wrap ((u2.toNat:Int) * 1099511627776)=(u2.toNat:Int) * 1099511627776:=by
  have:=wrap_uN (k:=.u64) rfl (n:=u2.toNat * 1099511627776) (by have:=u2.toNat_lt;simp only [IntKind.bits];omega)
  simpa using this
 have s1:IntKind.u64.wrap ((u1.toNat:Int) * 281474976710656)=(u1.toNat:Int) * 281474976710656:=by
  have:=wrap_uN (k:=.u64) rfl (n:=u1.toNat * 281474976710656) (by have:=u1.toNat_lt;simp only [IntKind.bits];omega)
  simpa using this
 have s0:IntKind.u64.wrap ((u0.toNat:Int) * 72057594037927936)=(u0.toNat:Int) * 72057594037927936:=by
  have:=wrap_uN (k:=.u64) rfl (n:=u0.toNat * 72057594037927936) (by have:=u0.toNat_lt;simp only [IntKind.bits];omega)
  simpa using this
 have o6:IntKind.u64.wrap ((BitVec.ofInt IntKind.u64.bits ((u7.toNat:Int)) ||| BitVec.ofInt IntKind.u64.bits ((u6.toNat:Int) * 256)).toNat:Int)=(u7.toNat:Int)+(u6.toNat:Int) * 256:=by
  rw [or_add2 (a:=u7.toNat) (b:=u6.toNat) (s:=8) (by omega) (by omega) (by omega) (by simp only [IntKind.bits];omega)]
  rw [wrap_uN (k:=.u64) rfl (n:=u7.toNat+u6.toNat * 2 ^ 8) (by simp only [IntKind.bits];omega)]
  omega
 have o5:IntKind.u64.wrap ((BitVec.ofInt IntKind.u64.bits ((u7.toNat:Int)+(u6.toNat:Int) * 256) ||| BitVec.ofInt IntKind.u64.bits ((u5.toNat:Int) * 65536)).toNat:Int)=(u7.toNat:Int)+(u6.toNat:Int) * 256+(u5.toNat:Int) * 65536:=by
  rw [or_add2 (a:=u7.toNat+u6.toNat * 256) (b:=u5.toNat) (s:=16) (by omega) (by omega) (by omega) (by simp only [IntKind.bits];omega)]
  rw [wrap_uN (k:=.u64) rfl (n:=u7.toNat+u6.toNat * 256+u5.toNat * 2 ^ 16) (by simp only [IntKind.bits];omega)]
  omega
 have o4:IntKind.u64.wrap ((BitVec.ofInt IntKind.u64.bits ((u7.toNat:Int)+(u6.toNat:Int) * 256+(u5.toNat:Int) * 65536) ||| BitVec.ofInt IntKind.u64.bits ((u4.toNat:Int) * 16777216)).toNat:Int)=(u7.toNat:Int)+(u6.toNat:Int) * 256+(u5.toNat:Int) * 65536+(u4.toNat:Int) * 16777216:=by
  rw [or_add2 (a:=u7.toNat+u6.toNat * 256+u5.toNat * 65536) (b:=u4.toNat) (s:=24) (by omega) (by omega) (by omega) (by simp only [IntKind.bits];omega)]
  rw [wrap_uN (k:=.u64) rfl (n:=u7.toNat+u6.toNat * 256+u5.toNat * 65536+u4.toNat * 2 ^ 24) (by simp only [IntKind.bits];omega)]
  omega
 have o3:IntKind.u64.wrap ((BitVec.ofInt IntKind.u64.bits ((u7.toNat:Int)+(u6.toNat:Int) * 256+(u5.toNat:Int) * 65536+(u4.toNat:Int) * 16777216) ||| BitVec.ofInt IntKind.u64.bits ((u3.toNat:Int) * 4294967296)).toNat:Int)=(u7.toNat:Int)+(u6.toNat:Int) * 256+(u5.toNat:Int) * 65536+(u4.toNat:Int) * 16777216+(u3.toNat:Int) * 4294967296:=by
  rw [or_add2 (a:=u7.toNat+u6.toNat * 256+u5.toNat * 65536+u4.toNat * 16777216) (b:=u3.toNat) (s:=32) (by omega) (by omega) (by omega) (by simp only [IntKind.bits];omega)]
  rw [wrap_uN (k:=.u64) rfl (n:=u7.toNat+u6.toNat * 256+u5.toNat * 65536+u4.toNat * 16777216+u3.toNat * 2 ^ 32) (by simp only [IntKind.bits];omega)]
  omega
 have o2:IntKind.u64.wrap ((BitVec.ofInt IntKind.u64.bits ((u7.toNat:Int)+(u6.toNat:Int) * 256+(u5.toNat:Int) * 65536+(u4.toNat:Int) * 16777216+(u3.toNat:Int) * 4294967296) ||| BitVec.ofInt IntKind.u64.bits ((u2.toNat:Int) * 1099511627776)).toNat:Int)=(u7.toNat:Int)+(u6.toNat:Int) * 256+(u5.toNat:Int) * 65536+(u4.toNat:Int) * 16777216+(u3.toNat:Int) * 4294967296+(u2.toNat:Int) * 1099511627776:=by
  rw [or_add2 (a:=u7.toNat+u6.toNat * 256+u5.toNat * 65536+u4.toNat * 16777216+u3.toNat * 4294967296) (b:=u2.toNat) (s:=40) (by omega) (by omega) (by omega) (by simp only [IntKind.bits];omega)]
  rw [wrap_uN (k:=.u64) rfl (n:=u7.toNat+u6.toNat * 256+u5.toNat * 65536+u4.toNat * 16777216+u3.toNat * 4294967296+u2.toNat * 2 ^ 40) (by simp only [IntKind.bits];omega)]
  omega
 have o1:IntKind.u64.wrap ((BitVec.ofInt IntKind.u64.bits ((u7.toNat:Int)+(u6.toNat:Int) * 256+(u5.toNat:Int) * 65536+(u4.toNat:Int) * 16777216+(u3.toNat:Int) * 4294967296+(u2.toNat:Int) * 1099511627776) ||| BitVec.ofInt IntKind.u64.bits ((u1.toNat:Int) * 281474976710656)).toNat:Int)=(u7.toNat:Int)+(u6.toNat:Int) * 256+(u5.toNat:Int) * 65536+(u4.toNat:Int) * 16777216+(u3.toNat:Int) * 4294967296+(u2.toNat:Int) * 1099511627776+(u1.toNat:Int) * 281474976710656:=by
  rw [or_add2 (a:=u7.toNat+u6.toNat * 256+u5.toNat * 65536+u4.toNat * 16777216+u3.toNat * 4294967296+u2.toNat * 1099511627776) (b:=u1.toNat) (s:=48) (by omega) (by omega) (by omega) (by simp only [IntKind.bits];omega)]
  rw [wrap_uN (k:=.u64) rfl (n:=u7.toNat+u6.toNat * 256+u5.toNat * 65536+u4.toNat * 16777216+u3.toNat * 4294967296+u2.toNat * 1099511627776+u1.toNat * 2 ^ 48) (by simp only [IntKind.bits];omega)]
  omega
 have o0:IntKind.u64.wrap ((BitVec.ofInt IntKind.u64.bits ((u7.toNat:Int)+(u6.toNat:Int) * 256+(u5.toNat:Int) * 65536+(u4.toNat:Int) * 16777216+(u3.toNat:Int) * 4294967296+(u2.toNat:Int) * 1099511627776+(u1.toNat:Int) * 281474976710656) ||| BitVec.ofInt IntKind.u64.bits ((u0.toNat:Int) * 72057594037927936)).toNat:Int)=(u7.toNat:Int)+(u6.toNat:Int) * 256+(u5.toNat:Int) * 65536+(u4.toNat:Int) * 16777216+(u3.toNat:Int) * 4294967296+(u2.toNat:Int) * 1099511627776+(u1.toNat:Int) * 281474976710656+(u0.toNat:Int) * 72057594037927936:=by
  rw [or_add2 (a:=u7.toNat+u6.toNat * 256+u5.toNat * 65536+u4.toNat * 16777216+u3.toNat * 4294967296+u2.toNat * 1099511627776+u1.toNat * 281474976710656) (b:=u0.toNat) (s:=56) (by omega) (by omega) (by omega) (by simp only [IntKind.bits];omega)]
  rw [wrap_uN (k:=.u64) rfl (n:=u7.toNat+u6.toNat * 256+u5.toNat * 65536+u4.toNat * 16777216+u3.toNat * 4294967296+u2.toNat * 1099511627776+u1.toNat * 281474976710656+u0.toNat * 2 ^ 56) (by simp only [IntKind.bits];omega)]
  omega
 have b1:8<=IntKind.u64.bits:=by decide
 have b2:16<=IntKind.u64.bits:=by decide
 have b3:24<=IntKind.u64.bits:=by decide
 have b4:32<=IntKind.u64.bits:=by decide
 have b5:40<=IntKind.u64.bits:=by decide
 have b6:48<=IntKind.u64.bits:=by decide
 have b7:56<=IntKind.u64.bits:=by decide
 refine wSq (wRg ?_)
 repeat (apply ops_1;(focus (simp (disch:=(try simp only [sPu]);omega) [hst,h1,hi3,hl1,d0,g0,x0,d1,g1,x1,d2,g2,x2,d3,g3,x3,d4,g4,x4,d5,g5,x5,d6,g6,x6,d7,g7,x7,s0,o0,s1,o1,s2,o2,s3,o3,s4,o4,s5,o5,s6,o6,b1,b2,b3,b4,b5,b6,b7];try rfl)))
 refine oNi ?_
 simp only [Exit.then]
 refine wSq (wDr hm (Below w1.heap.size w1.drew) [(0,true),(1,true),(2,true),(3,true),(4,true),(5,true),(6,true),(7,true),(8,true),(9,true),(10,true),(11,true),(12,true),(13,true),(14,true),(15,true),(16,true),(17,true),(18,true),(19,true),(20,true),(21,true),(22,true),(23,true),(24,true),(25,true),(26,true),(27,true),(28,true),(29,true),(30,true),(31,true),(32,true),(33,true),(34,true),(35,true),(36,true),(37,true),(38,true),(39,true),(40,true),(41,true),(42,true),(43,true),(44,true),(45,true),(46,true)] (by rfl) (by rfl) (by decide) (Below.refl _ _) ?_)
 have e0:w1.drew.cell? ⟨sb,q,none⟩=some (.int .u8 (u0.toNat:Int)):=d0
 have e1:w1.drew.cell? ⟨sb,q+1,none⟩=some (.int .u8 (u1.toNat:Int)):=d1
 have e2:w1.drew.cell? ⟨sb,q+2,none⟩=some (.int .u8 (u2.toNat:Int)):=d2
 have e3:w1.drew.cell? ⟨sb,q+3,none⟩=some (.int .u8 (u3.toNat:Int)):=d3
 have e4:w1.drew.cell? ⟨sb,q+4,none⟩=some (.int .u8 (u4.toNat:Int)):=d4
 have e5:w1.drew.cell? ⟨sb,q+5,none⟩=some (.int .u8 (u5.toNat:Int)):=d5
 have e6:w1.drew.cell? ⟨sb,q+6,none⟩=some (.int .u8 (u6.toNat:Int)):=d6
 have e7:w1.drew.cell? ⟨sb,q+7,none⟩=some (.int .u8 (u7.toNat:Int)):=d7
 repeat (apply dr_1;(focus rfl);(focus (simp (disch:=(try simp only [sPu]);omega) [hst,h1,hi3,hl1,e0,g0,x0,e1,g1,x1,e2,g2,x2,e3,g3,x3,e4,g4,x4,e5,g5,x5,e6,g6,x6,e7,g7,x7,s0,o0,s1,o1,s2,o2,s3,o3,s4,o4,s5,o5,s6,o6,b1,b2,b3,b4,b5,b6,b7,-BitVec.toNat_or,-BitVec.ofInt_natCast,-BitVec.toNat_ofInt,-BitVec.toNat_ofNat];try rfl)))
 refine dreg_nil ?_
 simp only [Exit.then]
 refine wRt (ret_tmp hr (by simp [dPu,hd]) ⟨?_,hb1.drew⟩)
 simp (disch:=(try simp only [sPu]);omega) [-BitVec.toNat_or,-BitVec.ofInt_natCast,-BitVec.toNat_ofInt,-BitVec.toNat_ofNat]
 simp only [unfix,List.length_cons,List.length_nil,Nat.reduceAdd,Nat.reducePow]
 omega
end Go.Proofs.YtdnpafdgglpagaaGreatDoor.K
