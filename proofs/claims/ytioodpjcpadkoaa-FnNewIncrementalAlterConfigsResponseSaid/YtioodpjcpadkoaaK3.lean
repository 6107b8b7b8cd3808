/- The stripped code of a message's AppendTo, built of the message's schema. No condition. -/
import Derived.Test.YtioodpjcpadkoaaK2
import Derived.Test.YtioodpjcpadkoaaT1
namespace Go.Proofs.Ytioodpjcpadkoaa.K
open Go Go.Proofs.Ytioodpjcpadkoaa.T

/-- the numbers of the program's functions and types that messages' code names -/
structure Ids where
  tI16 : Nat
  tInt : Nat
  tU32 : Nat
  tI8 : Nat
  tU8s : Nat
  tI32 : Nat
  tBool : Nat
  aBool : Nat
  aI8 : Nat
  aI16 : Nat
  aI32 : Nat
  aI64 : Nat
  aU16 : Nat
  aUuid : Nat
  aStr : Nat
  aCStr : Nat
  aNStr : Nat
  aCNStr : Nat
  aBytes : Nat
  aCBytes : Nat
  aNBytes : Nat
  aCNBytes : Nat
  aArr : Nat
  aCArr : Nat
  aNArr : Nat
  aCNArr : Nat
  aUvar : Nat
  tagsLen : Nat
  tagsEach : Nat

/-- the slots of 'version' and 'isFlexible'; 'never': the message has no flexible version -/
structure Ctx where
  ver : Nat
  flex : Nat
  never : Bool

def mv (t s : Nat) : SOp := ⟨some t, .move (.tmp s), none⟩
def asg (d s : Nat) : SOp := ⟨some d, .assign (.tmp s), none⟩
def nilc (t s : Nat) : SOp := ⟨some t, .nilCheck (.tmp s), none⟩
def fa (t S s f : Nat) : SOp := ⟨some t, .fieldAddr S (.tmp s) f, none⟩
def ld (t T s : Nat) : SOp := ⟨some t, .load T (.tmp s), none⟩
def cal (t f : Nat) (args : List Nat) : SOp := ⟨some t, .call ⟨.value (.func f), (args.map Operand.tmp).toArray, #[]⟩, none⟩
def lenOp (t T s : Nat) : SOp := ⟨some t, .call ⟨.builtin .len, #[.tmp s], #[T]⟩, none⟩
def bin (op : BinOp) (t T x : Nat) (y : Operand) : SOp := ⟨some t, .binOp op T (.tmp x) y T, none⟩

def seqs : List SC → SC
  | [] => .skip
  | [a] => a
  | a :: b :: r => .seq a (seqs (b :: r))

/-- the code under a field's versions -/
def vTmps (h : Hd) : Nat := if h.from_ = 0 ∧ h.to < 0 then 0 else if h.to < 0 then 2 else 6
def vCond (I : Ids) (c : Ctx) (h : Hd) (t : Nat) (body : SC) : SC :=
  if h.from_ = 0 ∧ h.to < 0 then body
  else if h.to < 0 then
    .seq (.reg [mv t c.ver, bin .geq (t + 1) I.tI16 t (.const (.int .i16 h.from_))]) (.cond (.tmp (t + 1)) body .skip)
  else
    .seq (.reg [mv t c.ver, bin .geq (t + 1) I.tI16 t (.const (.int .i16 h.from_)), mv (t + 2) (t + 1),
      ⟨some (t + 3), .move (.tmp c.ver), some (2, true)⟩, ⟨some (t + 4), .binOp .leq I.tI16 (.tmp (t + 3)) (.const (.int .i16 h.to)) I.tI16, some (2, true)⟩,
      ⟨some (t + 5), .pick (.tmp (t + 2)) (.tmp (t + 4)) (.const (.bool false)), none⟩]) (.cond (.tmp (t + 5)) body .skip)

/-- a statement under 'if isFlexible', or (of a message that never is) the other arm alone -/
def fTmps (c : Ctx) (m n : Nat) : Nat := if c.never then n else 1 + m + n
def fCond (c : Ctx) (t m : Nat) (x y : Nat → SC) : SC :=
  if c.never then y t else .seq (.reg [mv t c.flex]) (.cond (.tmp t) (x (t + 1)) (y (t + 1 + m)))

/-! ### AppendTo -/
def aCall (f x t : Nat) : SC := .reg [mv t 1, mv (t + 1) x, cal (t + 2) f [t, t + 1], asg 1 (t + 2)]
/-- the functions that write a kind: of flexible versions, and else -/
def aFn (I : Ids) (nul : Bool) : PK → Nat × Nat
  | .bool => (I.aBool, I.aBool) | .i8 => (I.aI8, I.aI8) | .i16 => (I.aI16, I.aI16) | .i32 => (I.aI32, I.aI32) | .i64 => (I.aI64, I.aI64)
  | .u16 => (I.aU16, I.aU16) | .uuid => (I.aUuid, I.aUuid)
  | .str => if nul then (I.aCNStr, I.aNStr) else (I.aCStr, I.aStr)
  | .bytes => if nul then (I.aCNBytes, I.aNBytes) else (I.aCBytes, I.aBytes)
def PK.parted : PK → Bool
  | .str => true | .bytes => true | _ => false
def aAppT (c : Ctx) (k : PK) : Nat := if PK.parted k then fTmps c 3 3 else 3
def aApp (I : Ids) (c : Ctx) (nul : Bool) (k : PK) (x t : Nat) : SC :=
  if PK.parted k then fCond c t 3 (aCall (aFn I nul k).1 x) (aCall (aFn I nul k).2 x) else aCall (aFn I nul k).2 x t

/-- a struct's field into a slot -/
def aLoad (S p f T v t : Nat) : SC := .reg [mv t p, nilc (t + 1) t, fa (t + 2) S (t + 1) f, ld (t + 3) T (t + 2), asg v (t + 3)]

def aLen (I : Ids) (c : Ctx) (nul : Bool) (T v t : Nat) : SC :=
  if nul then
    fCond c t 6
      (fun t => .reg [mv t 1, mv (t + 1) v, lenOp (t + 2) T (t + 1), mv (t + 3) v, bin .eql (t + 4) T (t + 3) (.const (.slice none 0 0)), cal (t + 5) I.aCNArr [t, t + 2, t + 4], asg 1 (t + 5)])
      (fun t => .reg [mv t 1, mv (t + 1) v, lenOp (t + 2) T (t + 1), mv (t + 3) v, bin .eql (t + 4) T (t + 3) (.const (.slice none 0 0)), cal (t + 5) I.aNArr [t, t + 2, t + 4], asg 1 (t + 5)])
  else
    fCond c t 4
      (fun t => .reg [mv t 1, mv (t + 1) v, lenOp (t + 2) T (t + 1), cal (t + 3) I.aCArr [t, t + 2], asg 1 (t + 3)])
      (fun t => .reg [mv t 1, mv (t + 1) v, lenOp (t + 2) T (t + 1), cal (t + 3) I.aArr [t, t + 2], asg 1 (t + 3)])
def aLenT (c : Ctx) (nul : Bool) : Nat := if nul then fTmps c 6 6 else fTmps c 4 4

def aTagsT : Nat := 14
def aTags (I : Ids) (c : Ctx) (S p f t : Nat) : SC :=
  .seq (.reg [mv t c.flex]) (.cond (.tmp t)
    (.seq (.reg [mv (t + 1) 1, mv (t + 2) p, nilc (t + 3) (t + 2), fa (t + 4) S (t + 3) f, cal (t + 5) I.tagsLen [t + 4], ⟨some (t + 6), .convert I.tInt I.tU32 (.tmp (t + 5)), none⟩,
        ⟨some (t + 7), .binOp .add I.tU32 (.const (.int .u32 0)) (.tmp (t + 6)) I.tU32, none⟩, cal (t + 8) I.aUvar [t + 1, t + 7], asg 1 (t + 8)])
      (.reg [mv (t + 9) p, nilc (t + 10) (t + 9), fa (t + 11) S (t + 10) f, mv (t + 12) 1, cal (t + 13) I.tagsEach [t + 11, t + 12], asg 1 (t + 13)]))
    .skip)
def aTagsL (I : Ids) (c : Ctx) (S p : Nat) (tags : Option (Nat × Nat)) (t : Nat) : List SC :=
  match tags with
  | none => []
  | some (f, _) => [aTags I c S p f t]
def tagsT (tags : Option (Nat × Nat)) : Nat := if tags.isSome then aTagsT else 0

def aByte (I : Ids) (n : Int) (t : Nat) : SC :=
  .reg [mv t 1, ⟨some (t + 1), .buildSlice I.tU8s 1 #[(0, .const (.int .u8 n))], none⟩, ⟨some (t + 2), .call ⟨.builtin .append, #[.tmp t, .tmp (t + 1)], #[I.tU8s, I.tU8s]⟩, none⟩, asg 1 (t + 2)]

mutual
/-- how many variables, slots and blocks a field's code takes -/
def nV : Ty → Nat
  | .prim _ => 1
  | .list _ _ _ of => 2 + nV of
  | .struct _ _ _ _ fs => 1 + nVs fs
def nVs : Fs → Nat
  | .nil => 0
  | .cons h ty r => nV ty + (if h.enum then 1 else 0) + nVs r
end
mutual
def nB : Ty → Nat
  | .prim _ => 0
  | .list _ _ _ of => 2 + nB of
  | .struct _ _ _ _ fs => nBs fs
def nBs : Fs → Nat
  | .nil => 0
  | .cons _ ty r => nB ty + nBs r
end
mutual
/-- the slots of an element's code, behind the moves of the index -/
def aET (c : Ctx) : Ty → Nat
  | .prim k => 4 + aAppT c k
  | .list _ _ _ _ => 0
  | .struct _ _ _ tags fs => 3 + aFT c fs + tagsT tags
/-- of a field's value -/
def aVT (c : Ctx) (h : Hd) : Ty → Nat
  | .prim k => 4 + (if h.enum then 1 else 0) + aAppT c k
  | .list _ _ _ of => 4 + aLenT c (decide (0 ≤ h.null)) + 5 + aET c of + 1
  | .struct _ _ _ tags fs => (if 0 ≤ h.null then 12 else 3) + aFT c fs + tagsT tags
def aFT (c : Ctx) : Fs → Nat
  | .nil => 0
  | .cons h ty r => vTmps h + aVT c h ty + aFT c r
end

mutual
/-- an element's code: the slice in slot s, its place in slot i -/
def aElem (I : Ids) (c : Ctx) (T E s i v t b : Nat) : Ty → List SC
  | .prim k =>
    if k = .uuid then [.skip] else
    [.reg [mv t s, mv (t + 1) i, ⟨some (t + 2), .indexAddr T (.tmp t) (.tmp (t + 1)), none⟩, ld (t + 3) E (t + 2), asg v (t + 3)], aApp I c false k v (t + 4)]
  | .list _ _ _ _ => [.other]
  | .struct S _ _ tags fs =>
    .reg [mv t s, mv (t + 1) i, ⟨some (t + 2), .indexAddr T (.tmp t) (.tmp (t + 1)), none⟩, asg v (t + 2)] :: (aFs I c S v (v + 1) (t + 3) b fs ++ aTagsL I c S v tags (t + 3 + aFT c fs))
/-- a field's code: the struct's pointer in slot p -/
def aVal (I : Ids) (c : Ctx) (S p : Nat) (h : Hd) (v t b : Nat) : Ty → SC
  | .prim k =>
    if k = .uuid then
      .seq (.reg [mv t p, nilc (t + 1) t, fa (t + 2) S (t + 1) h.idx, ld (t + 3) h.typ (t + 2), ⟨some v, .alloc h.typ, none⟩, ⟨none, .store h.typ (.tmp v) (.tmp (t + 3)), none⟩])
        (.reg [mv (t + 4) 1, ld (t + 5) h.typ v, cal (t + 6) I.aUuid [t + 4, t + 5], asg 1 (t + 6)])
    else if h.enum then
      .seq (aLoad S p h.idx h.typ v t) (.seq (.reg [mv (t + 4) v, asg (v + 1) (t + 4)]) (aApp I c (decide (0 ≤ h.null)) k (v + 1) (t + 5)))
    else .seq (aLoad S p h.idx h.typ v t) (aApp I c (decide (0 ≤ h.null)) k v (t + 4))
  | .list T E _ of =>
    .seq (aLoad S p h.idx h.typ v t) (.seq (aLen I c (decide (0 ≤ h.null)) T v (t + 4))
      (aLoop T v (t + 4 + aLenT c (decide (0 ≤ h.null))) b (aET c of) (aElem I c T E v (v + 1) (v + 2) (t + 4 + aLenT c (decide (0 ≤ h.null)) + 5) (b + 2) of) I.tInt))
  | .struct S' _ _ tags fs =>
    if 0 ≤ h.null then
      .seq (aLoad S p h.idx h.typ v t) (.seq (.reg [mv (t + 4) v, bin .eql (t + 5) h.typ (t + 4) (.const (.pointer none))])
        (.cond (.tmp (t + 5)) (aByte I 255 (t + 6)) (seqs (aByte I 1 (t + 9) :: (aFs I c S' v (v + 1) (t + 12) b fs ++ aTagsL I c S' v tags (t + 12 + aFT c fs))))))
    else
      seqs (.reg [mv t p, nilc (t + 1) t, fa (t + 2) S (t + 1) h.idx, asg v (t + 2)] :: (aFs I c S' v (v + 1) (t + 3) b fs ++ aTagsL I c S' v tags (t + 3 + aFT c fs)))
def aFs (I : Ids) (c : Ctx) (S p v t b : Nat) : Fs → List SC
  | .nil => []
  | .cons h ty r =>
    vCond I c h t (aVal I c S p h v (t + vTmps h) b ty) ::
      aFs I c S p (v + nV ty + (if h.enum then 1 else 0)) (t + vTmps h + aVT c h ty) (b + nB ty) r
/-- a loop over a slice in slot s: its length, its counter, the place that a round has (slot s + 1) -/
def aLoop (T s t b et : Nat) (body : List SC) (tInt : Nat) : SC :=
  .seq (.reg [mv t s, lenOp (t + 1) T t, ⟨some (t + 2), .move (.const (.int .i64 0)), none⟩])
    (.block b (.loop (.seq (.reg [bin .lss (t + 3) tInt (t + 2) (.tmp (t + 1))]) (.seq (.cond (.tmp (t + 3)) .skip (.exit b))
      (.seq (.block (b + 1) (seqs (.reg [mv (t + 4) (t + 2), asg (s + 1) (t + 4)] :: body)))
        (.reg [bin .add (t + 5 + et) tInt (t + 2) (.const (.int .i64 1)), mv (t + 2) (t + 5 + et)]))))))
end

def ctxOf : Option Int → Ctx
  | none => ⟨5, 5, true⟩
  | some _ => ⟨5, 6, false⟩
def v0Of : Option Int → Nat
  | none => 6
  | some _ => 7
def t1Of (t : Nat) : Option Int → Nat
  | none => t + 5
  | some _ => t + 8
def flexPart (I : Ids) (t : Nat) : Option Int → List SC
  | none => []
  | some n => [.reg [mv (t + 5) 5, bin .geq (t + 6) I.tI16 (t + 5) (.const (.int .i16 n)), asg 6 (t + 6)], .reg [mv (t + 7) 6]]

/-- the whole body of a message's AppendTo; t: its first unnamed slot -/
def aTop (I : Ids) (S t : Nat) (flex : Option Int) (tags : Option (Nat × Nat)) (fs : Fs) : SC :=
  seqs ([.reg [⟨some 4, .assign (.const (.slice none 0 0)), none⟩], aLoad S 0 0 I.tI16 5 t, .reg [mv (t + 4) 5]] ++ (flexPart I t flex ++
    ((aFs I (ctxOf flex) S 0 (v0Of flex) (t1Of t flex) 0 fs ++ aTagsL I (ctxOf flex) S 0 tags (t1Of t flex + aFT (ctxOf flex) fs)) ++
    [.reg [mv (t1Of t flex + aFT (ctxOf flex) fs + tagsT tags) 1, asg 4 (t1Of t flex + aFT (ctxOf flex) fs + tagsT tags)], .ret])))

end Go.Proofs.Ytioodpjcpadkoaa.K
