/- What is written of a message: plain Lean, after the reference's own words. No condition. -/
namespace Go.Proofs.Ytioodpjcpadkoaa.T

abbrev Bytes := List UInt8

/-- What a field says (the reference's Tree). -/
inductive Tree where
  | mk (n : Int) (s : Bytes) (null : Bool) (l : List Tree) (u : List (Nat × Bytes))
def Tree.n : Tree → Int | .mk n _ _ _ _ => n
def Tree.s : Tree → Bytes | .mk _ s _ _ _ => s
def Tree.null : Tree → Bool | .mk _ _ b _ _ => b
def Tree.l : Tree → List Tree | .mk _ _ _ l _ => l
def Tree.u : Tree → List (Nat × Bytes) | .mk _ _ _ _ u => u
def Tree.zero : Tree := .mk 0 [] false [] []
instance : Inhabited Tree := ⟨Tree.zero⟩

/-- primitive kinds -/
inductive PK where
  | bool | i8 | i16 | i32 | i64 | u16 | uuid | str | bytes
  deriving DecidableEq

/-- a field's head: the versions that have it; from which version it may be null; its default; then, of the program's text: the place in its struct and its first cell, its type; a conversion to int8 ahead of its writing -/
structure Hd where
  from_ : Int
  to : Int
  null : Int
  dflt : Int
  idx : Nat
  off : Nat
  typ : Nat
  enum : Bool

mutual
inductive Ty where
  | prim (k : PK)
  /-- a list: the slice's type, the elements' type and cells -/
  | list (typ el size : Nat) (of : Ty)
  /-- a part: its struct type, cells, the function Default, its tags' field and cell (if it has tags) -/
  | struct (typ size dflt : Nat) (tags : Option (Nat × Nat)) (fs : Fs)
inductive Fs where
  | nil
  | cons (h : Hd) (ty : Ty) (rest : Fs)
end

def Hd.has (h : Hd) (ver : Int) : Bool := decide (h.from_ ≤ ver) && (decide (h.to < 0) || decide (ver ≤ h.to))
def Hd.isNull (h : Hd) (ver : Int) (t : Tree) : Bool := t.null && (decide (0 ≤ h.null) && decide (h.null ≤ ver))

/-- a byte of a number -/
def byteOf (n : Int) : UInt8 := UInt8.ofNat (n % 256).toNat
/-- a number in so many octets, the highest one first -/
def fixed (n : Int) : Nat → Bytes
  | 0 => []
  | k + 1 => byteOf (n / 256 ^ k) :: fixed n k
/-- groups of seven bits -/
def uvarint (n : Nat) : Bytes :=
  if h : n ≤ 127 then [UInt8.ofNat n] else UInt8.ofNat (n % 128 + 128) :: uvarint (n / 128)
termination_by n
decreasing_by omega

def most : Nat := 32767
def whole (b : Bytes) : Bytes := b.take most
def counted (flex null : Bool) (n : Nat) (size : Nat) : Bytes :=
  if flex then (if null then [0] else uvarint (n + 1)) else (if null then fixed (-1) size else fixed n size)

def PK.width : PK → Nat
  | .i8 => 1 | .i16 => 2 | .u16 => 2 | .i32 => 4 | _ => 8

def wPrim (flex null : Bool) (t : Tree) : PK → Bytes
  | .bool => [byteOf (t.n % 2)]
  | .uuid => (t.s ++ List.replicate 16 0).take 16
  | .str => let s := if null then [] else whole t.s; counted flex null s.length 2 ++ s
  | .bytes => let s := if null then [] else whole t.s; counted flex null s.length 4 ++ s
  | k => fixed t.n k.width

/-- the unknown tags, by rising numbers, the first one of each number -/
def insTag (t : Nat × Bytes) : List (Nat × Bytes) → List (Nat × Bytes)
  | [] => [t]
  | x :: r => if x.1 < t.1 then x :: insTag t r else if x.1 = t.1 then x :: r else t :: x :: r
def unknown (l : List (Nat × Bytes)) : List (Nat × Bytes) := (l.take most).foldl (fun acc t => insTag t acc) []
def wTag (t : Nat × Bytes) : Bytes := uvarint t.1 ++ uvarint (whole t.2).length ++ whole t.2
def wTags (flex : Bool) (u : List (Nat × Bytes)) : Bytes :=
  if flex then uvarint (unknown u).length ++ (unknown u).flatMap wTag else []

mutual
/-- what is written of a value; 'null': it is null at this version -/
def wTy (ver : Int) (flex : Bool) : Ty → Bool → Tree → Bytes
  | .prim k, null, t => wPrim flex null t k
  | .list _ _ _ of, null, t => (fun l => counted flex null l.length 4 ++ l.flatMap (fun x => wTy ver flex of false x)) (if null then [] else t.l.take most)
  | .struct _ _ _ _ fs, _, t => wFs ver flex fs t.l ++ wTags flex t.u
/-- what is written of fields, in order -/
def wFs (ver : Int) (flex : Bool) : Fs → List Tree → Bytes
  | .nil, _ => []
  | .cons h ty r, ts =>
    (if h.has ver then
      (match ty with
       | .struct _ _ _ _ _ =>
         if 0 ≤ h.null then (if h.isNull ver (ts.headD Tree.zero) then [255] else 1 :: wTy ver flex ty false (ts.headD Tree.zero))
         else wTy ver flex ty false (ts.headD Tree.zero)
       | _ => wTy ver flex ty (h.isNull ver (ts.headD Tree.zero)) (ts.headD Tree.zero))
     else []) ++ wFs ver flex r ts.tail
end

/-- what is written of a field that the version has -/
def wField (ver : Int) (flex : Bool) (h : Hd) (ty : Ty) (t : Tree) : Bytes :=
  match ty with
  | .struct _ _ _ _ _ => if 0 ≤ h.null then (if h.isNull ver t then [255] else 1 :: wTy ver flex ty false t) else wTy ver flex ty false t
  | _ => wTy ver flex ty (h.isNull ver t) t

theorem wFs_cons (ver : Int) (flex : Bool) (h : Hd) (ty : Ty) (r : Fs) (ts : List Tree) :
    wFs ver flex (.cons h ty r) ts = (if h.has ver then wField ver flex h ty (ts.headD Tree.zero) else []) ++ wFs ver flex r ts.tail := by
  cases ty <;> simp [wFs, wField]

end Go.Proofs.Ytioodpjcpadkoaa.T
