/- What a message in memory says (a tree), and what the functions that write one are asked to do. No condition. -/
import Derived.Test.YtioodpjcpadkoaaK3
import Derived.Below
namespace Go.Proofs.Ytioodpjcpadkoaa.K
open Go Go.RowKit Go.Proofs.Ytioodpjcpadkoaa.T

def cell (u : UInt8) : Value := .int .u8 u.toNat
def cellsOf (bs : Bytes) : List Value := bs.map cell
theorem cellsOf_append (a b : Bytes) : cellsOf (a ++ b) = cellsOf a ++ cellsOf b := by simp [cellsOf]
theorem cellsOf_length (a : Bytes) : (cellsOf a).length = a.length := by simp [cellsOf]

/-- octets in memory, in blocks of F -/
def BytesAt (w : World) (F : Nat → Prop) (base : Option Addr) (bs : Bytes) : Prop :=
  (base = none ∧ bs = []) ∨ ∃ b o, base = some ⟨b, o, none⟩ ∧ F b ∧ ∀ j u, bs[j]? = some u → w.cell? ⟨b, o + j, none⟩ = some (cell u)

/-- the value of a primitive kind says the tree -/
def PVal (w : World) (F : Nat → Prop) (nul : Bool) (t : Tree) : PK → Value → Prop
  | .bool, v => ∃ x, v = .bool x ∧ t.n % 2 = if x then 1 else 0
  | .i8, v => v = .int .i8 t.n
  | .i16, v => v = .int .i16 t.n
  | .i32, v => v = .int .i32 t.n
  | .i64, v => v = .int .i64 t.n
  | .u16, v => v = .int .u16 t.n
  | .uuid, _ => False
  | .str, v =>
    if nul then (if t.null then v = .pointer none
      else ∃ b' o' s, v = .pointer (some ⟨b', o', none⟩) ∧ F b' ∧ w.cell? ⟨b', o', none⟩ = some (.string s) ∧ s.data.toList = t.s ∧ t.s.length ≤ most)
    else ∃ s, v = .string s ∧ s.data.toList = t.s ∧ t.s.length ≤ most
  | .bytes, v => ∃ base cap, v = .slice base (if nul && t.null then 0 else t.s.length) cap ∧
      (if nul && t.null then base = none else BytesAt w F base t.s ∧ t.s.length ≤ most ∧ (nul = true → base ≠ none))

def uuidOf (t : Tree) : Bytes := (t.s ++ List.replicate 16 0).take 16
def HPrim (w : World) (F : Nat → Prop) (nul : Bool) (b o : Nat) (t : Tree) (k : PK) : Prop :=
  if k = .uuid then ∀ j u, (uuidOf t)[j]? = some u → w.cell? ⟨b, o + j, none⟩ = some (cell u)
  else ∃ v, w.cell? ⟨b, o, none⟩ = some v ∧ PVal w F nul t k v

/-- a map's entries are these tags -/
def TagsEs (w : World) (F : Nat → Prop) (es : Array MapEntry) (u : List (Nat × Bytes)) : Prop :=
  (es.toList.map (·.key)).Perm (u.map fun x => Value.int .u32 (x.1 : Int)) ∧
  ∀ e ∈ es.toList, ∀ x ∈ u, e.key = .int .u32 (x.1 : Int) → ∃ base cap, e.val = .slice base x.2.length cap ∧ BytesAt w F base x.2

/-- the tags in a cell: in the order of their numbers, each once; 'G': what the caller's lemma on tags lets in -/
def HTags (G : List (Nat × Bytes) → Prop) (w : World) (F : Nat → Prop) (b o : Nat) (u : List (Nat × Bytes)) : Prop :=
  G u ∧ unknown u = u ∧ u.length ≤ most ∧ (∀ x ∈ u, x.1 < 4294967296 ∧ x.2.length ≤ most) ∧
  ((w.cell? ⟨b, o, none⟩ = some (.map none) ∧ u = []) ∨
    ∃ r es clock, w.cell? ⟨b, o, none⟩ = some (.map (some r)) ∧ F r ∧ w.heap[r]? = some (.map es clock) ∧ TagsEs w F es u)

mutual
/-- the value at a place of memory says the tree, at a version -/
def HTy (G : List (Nat × Bytes) → Prop) (w : World) (F : Nat → Prop) (ver : Int) (flex : Bool) : Ty → Bool → Nat → Nat → Tree → Prop
  | .prim k, nul, b, o, t => HPrim w F nul b o t k
  | .list _ _ size of, nul, b, o, t => ∃ base cap, w.cell? ⟨b, o, none⟩ = some (.slice base (if nul && t.null then 0 else t.l.length) cap) ∧
      (if nul && t.null then base = none else
        t.l.length ≤ most ∧ (nul = true → base ≠ none) ∧
        ((base = none ∧ t.l = []) ∨ ∃ b' o', base = some ⟨b', o', none⟩ ∧ F b' ∧ ∀ i x, t.l[i]? = some x → HTy G w F ver flex of false b' (o' + i * size) x))
  | .struct _ _ _ tags fs, nul, b, o, t =>
    if nul then
      (if t.null then w.cell? ⟨b, o, none⟩ = some (.pointer none)
       else ∃ b' o', w.cell? ⟨b, o, none⟩ = some (.pointer (some ⟨b', o', none⟩)) ∧ F b' ∧ HFs G w F ver flex fs b' o' t.l ∧ (match tags with | none => t.u = [] | some (_, off) => flex = true → HTags G w F b' (o' + off) t.u))
    else HFs G w F ver flex fs b o t.l ∧ (match tags with | none => t.u = [] | some (_, off) => flex = true → HTags G w F b (o + off) t.u)
def HFs (G : List (Nat × Bytes) → Prop) (w : World) (F : Nat → Prop) (ver : Int) (flex : Bool) : Fs → Nat → Nat → List Tree → Prop
  | .nil, _, _, _ => True
  | .cons h ty r, b, o, ts => (h.has ver = true → HTy G w F ver flex ty (decide (0 ≤ h.null)) b (o + h.off) (ts.headD Tree.zero)) ∧ HFs G w F ver flex r b o ts.tail
end

/-- a function that can be called -/
def FnOK (P : Program) (f : FuncId) : Prop := ∃ fn, P.funcs[f]? = some fn ∧ fn.body.isSome = true ∧ (fn.name == "runtime.NumGoroutine") = false

/-- the octets that a slice owns -/
def Own (tU8 : Nat) (w : World) (B : Nat) (dv : Value) (xs : Bytes) : Prop := w.ownsRow B tU8 1 dv xs.length (cellsOf xs)

def lim : Nat := 70368744177664

/-- the function writes 'out' behind what stands there, in any world that 'pre' lets in -/
def AP (P : Program) (tU8 : Nat) (f : FuncId) (args : Array Value) (pre : World → Nat → Prop) (out : Bytes) : Prop :=
  FnOK P f ∧ ∀ (w : World) (B : Nat) (dv : Value) (xs : Bytes), Own tU8 w B dv xs → B ≤ w.heap.size → xs.length + out.length ≤ lim → pre w B →
    Calls P f (#[dv] ++ args) w fun e w' => ∃ dv', e = .returned dv' ∧ Own tU8 w' B dv' (xs ++ out) ∧ Below B w w' ∧ B ≤ w'.heap.size

/-- what is asked of the functions that write -/
structure KA (G : List (Nat × Bytes) → Prop) (P : Program) (I : Ids) (tU8 : Nat) : Prop where
  bool : I.aBool ≠ 0 → ∀ x : Bool, AP P tU8 I.aBool #[.bool x] (fun _ _ => True) [if x then 1 else 0]
  i8 : I.aI8 ≠ 0 → ∀ n : Int, AP P tU8 I.aI8 #[.int .i8 n] (fun _ _ => True) (fixed n 1)
  i16 : I.aI16 ≠ 0 → ∀ n : Int, AP P tU8 I.aI16 #[.int .i16 n] (fun _ _ => True) (fixed n 2)
  i32 : I.aI32 ≠ 0 → ∀ n : Int, AP P tU8 I.aI32 #[.int .i32 n] (fun _ _ => True) (fixed n 4)
  i64 : I.aI64 ≠ 0 → ∀ n : Int, AP P tU8 I.aI64 #[.int .i64 n] (fun _ _ => True) (fixed n 8)
  u16 : I.aU16 ≠ 0 → ∀ n : Int, AP P tU8 I.aU16 #[.int .u16 n] (fun _ _ => True) (fixed n 2)
  uuid : I.aUuid ≠ 0 → ∀ bs : Bytes, bs.length = 16 → AP P tU8 I.aUuid #[.agg (cellsOf bs).toArray] (fun _ _ => True) bs
  str : I.aStr ≠ 0 → ∀ s : ByteArray, s.data.toList.length ≤ most → AP P tU8 I.aStr #[.string s] (fun _ _ => True) (counted false false s.data.toList.length 2 ++ s.data.toList)
  cstr : I.aCStr ≠ 0 → ∀ s : ByteArray, s.data.toList.length ≤ most → AP P tU8 I.aCStr #[.string s] (fun _ _ => True) (counted true false s.data.toList.length 2 ++ s.data.toList)
  nstr0 : I.aNStr ≠ 0 → AP P tU8 I.aNStr #[.pointer none] (fun _ _ => True) (counted false true 0 2)
  nstr : I.aNStr ≠ 0 → ∀ (b o : Nat) (s : ByteArray), s.data.toList.length ≤ most → AP P tU8 I.aNStr #[.pointer (some ⟨b, o, none⟩)] (fun w B => b < B ∧ w.cell? ⟨b, o, none⟩ = some (.string s)) (counted false false s.data.toList.length 2 ++ s.data.toList)
  cnstr0 : I.aCNStr ≠ 0 → AP P tU8 I.aCNStr #[.pointer none] (fun _ _ => True) (counted true true 0 2)
  cnstr : I.aCNStr ≠ 0 → ∀ (b o : Nat) (s : ByteArray), s.data.toList.length ≤ most → AP P tU8 I.aCNStr #[.pointer (some ⟨b, o, none⟩)] (fun w B => b < B ∧ w.cell? ⟨b, o, none⟩ = some (.string s)) (counted true false s.data.toList.length 2 ++ s.data.toList)
  bytes : I.aBytes ≠ 0 → ∀ (base : Option Addr) (cap : Nat) (bs : Bytes), bs.length ≤ most → AP P tU8 I.aBytes #[.slice base bs.length cap] (fun w B => BytesAt w (· < B) base bs) (counted false false bs.length 4 ++ bs)
  cbytes : I.aCBytes ≠ 0 → ∀ (base : Option Addr) (cap : Nat) (bs : Bytes), bs.length ≤ most → AP P tU8 I.aCBytes #[.slice base bs.length cap] (fun w B => BytesAt w (· < B) base bs) (counted true false bs.length 4 ++ bs)
  nbytes : I.aNBytes ≠ 0 → ∀ (base : Option Addr) (cap : Nat) (bs : Bytes), bs.length ≤ most → base ≠ none → AP P tU8 I.aNBytes #[.slice base bs.length cap] (fun w B => BytesAt w (· < B) base bs) (counted false false bs.length 4 ++ bs)
  nbytes0 : I.aNBytes ≠ 0 → ∀ (cap : Nat), AP P tU8 I.aNBytes #[.slice none 0 cap] (fun _ _ => True) (counted false true 0 4)
  cnbytes : I.aCNBytes ≠ 0 → ∀ (base : Option Addr) (cap : Nat) (bs : Bytes), bs.length ≤ most → base ≠ none → AP P tU8 I.aCNBytes #[.slice base bs.length cap] (fun w B => BytesAt w (· < B) base bs) (counted true false bs.length 4 ++ bs)
  cnbytes0 : I.aCNBytes ≠ 0 → ∀ (cap : Nat), AP P tU8 I.aCNBytes #[.slice none 0 cap] (fun _ _ => True) (counted true true 0 4)
  arr : I.aArr ≠ 0 → ∀ n : Nat, n ≤ most → AP P tU8 I.aArr #[.int .i64 n] (fun _ _ => True) (counted false false n 4)
  carr : I.aCArr ≠ 0 → ∀ n : Nat, n ≤ most → AP P tU8 I.aCArr #[.int .i64 n] (fun _ _ => True) (counted true false n 4)
  narr : I.aNArr ≠ 0 → ∀ (n : Nat) (x : Bool), n ≤ most → AP P tU8 I.aNArr #[.int .i64 n, .bool x] (fun _ _ => True) (counted false x n 4)
  cnarr : I.aCNArr ≠ 0 → ∀ (n : Nat) (x : Bool), n ≤ most → AP P tU8 I.aCNArr #[.int .i64 n, .bool x] (fun _ _ => True) (counted true x n 4)
  uvar : I.aUvar ≠ 0 → ∀ n : Nat, n < 4294967296 → AP P tU8 I.aUvar #[.int .u32 n] (fun _ _ => True) (uvarint n)
  tagsLen : I.tagsLen ≠ 0 → FnOK P I.tagsLen ∧ ∀ (w : World) (F : Nat → Prop) (b o : Nat) (u : List (Nat × Bytes)), HTags G w F b o u →
    Calls P I.tagsLen #[.pointer (some ⟨b, o, none⟩)] w fun e w' => e = .returned (.int .i64 u.length) ∧ w = w'
  tagsEach : I.tagsEach ≠ 0 → FnOK P I.tagsEach ∧ ∀ (w : World) (B b o : Nat) (u : List (Nat × Bytes)) (dv : Value) (xs : Bytes), HTags G w (· < B) b o u → b < B → Own tU8 w B dv xs → B ≤ w.heap.size →
    xs.length + (u.flatMap wTag).length ≤ lim →
    Calls P I.tagsEach #[.pointer (some ⟨b, o, none⟩), dv] w fun e w' => ∃ dv', e = .returned dv' ∧ Own tU8 w' B dv' (xs ++ u.flatMap wTag) ∧ Below B w w' ∧ B ≤ w'.heap.size

end Go.Proofs.Ytioodpjcpadkoaa.K
