/- The operations that touch memory, over any program whose types have the shapes named. No condition. -/
import Derived.Test.YtioodpjcpadkoaaK1
import Derived.WalkSpells
namespace Go.Proofs.Ytioodpjcpadkoaa.K
open Go

/-- a type of one cell that is no struct and no array -/
def oneB (P : Program) (T : TypeId) : Bool :=
  match P.info? T, P.underlying T with
  | some i, some (.struct _) => false && i.size == 1
  | some i, some (.array _ _) => false && i.size == 1
  | some i, some _ => i.size == 1
  | _, _ => false

/-- an array or struct of so many cells -/
def aggB (P : Program) (T : TypeId) (n : Nat) : Bool :=
  match P.info? T, P.underlying T with
  | some i, some (.struct _) => i.size == n
  | some i, some (.array _ _) => i.size == n
  | _, _ => false

def fieldB (P : Program) (S f off : Nat) : Bool :=
  match P.underlying S with
  | some (.struct fields) => match fields.toList[f]? with
    | some fld => fld.offset == off && match P.info? fld.type with
      | some i => i.size != 0
      | none => false
    | none => false
  | _ => false

/-- T is a slice type whose elements are of type E, of so many cells -/
def sliceB (P : Program) (T E n : Nat) : Bool :=
  match P.underlying T with
  | some (.slice e) => e == E && match P.info? E with
    | some i => i.size == n
    | none => false
  | _ => false

def intB (P : Program) (T : TypeId) (k : IntKind) : Bool :=
  match P.underlying T with
  | some (.int k') => k' == k
  | _ => false

section
variable {P : Program} {a : Act} {w : World} {K : Act → World → Prop} {d : Option Tmp} {g : Option (Nat × Bool)}

theorem one_of {T : TypeId} (h : oneB P T = true) : ∃ i dd, P.info? T = some i ∧ i.size = 1 ∧ P.underlying T = some dd ∧ (∀ f, dd ≠ .struct f) ∧ (∀ n e, dd ≠ .array n e) := by
  unfold oneB at h
  split at h
  · simp at h
  · simp at h
  · rename_i i dd hs ha h1 h2
    exact ⟨i, dd, h1, by simpa using h, h2, fun f e => hs f e, fun n e e' => ha n e e'⟩
  · simp at h

theorem run_isAgg_one {T : TypeId} (h : oneB P T = true) : (isAgg T).run P w = .ok false w := by
  obtain ⟨i, dd, _, _, hu, hs, ha⟩ := one_of h
  cases dd <;> simp [isAgg, run_underlying hu] <;> first | exact absurd rfl (hs _) | exact absurd rfl (ha _ _)

theorem run_load_one {T : TypeId} {ad : Addr} {v : Value} (h : oneB P T = true) (hc : w.cell? ad = some v) : (Instr.loadAt T (.pointer (some ad))).run P w = .ok v w := by
  have h0 := run_isAgg_one (w := w) h
  simp [Instr.loadAt, Instr.sureAddr, loadVar, h0, load, Sem.run, hc]

theorem opw_load_one {T : TypeId} {x : Operand} {ad : Addr} {v : Value} (hT : oneB P T = true) (hx : a.eval x = .pointer (some ad)) (hc : w.cell? ad = some v) (h : K (a.put d v) w) :
    opw P ⟨d, .load T x, g⟩ a w K :=
  opw_value (by simp) (fun o ho => by simp [execOp, ho, hx, run_load_one hT hc]) h

theorem cells_oneCell {v : Value} (h : v.oneCell' = true) : v.cells = #[v] := by cases v <;> simp_all [Value.oneCell', Value.cells]

theorem run_store_one {T : TypeId} {ad : Addr} {v v0 : Value} (h : oneB P T = true) (h1 : v.oneCell' = true) (hc : w.cell? ad = some v0) (hf : w.frozen? ad = false) :
    (Instr.storeAt T (.pointer (some ad)) v).run P w = .ok () (w.setCell ad v) := by
  obtain ⟨i, dd, hi, hs, _⟩ := one_of h
  have e : ad.add 0 = ad := by simp [Addr.add]
  have hst : (Sem.store Mode.plain ad v (Sem.pure ())).run P w = .ok () (w.setCell ad v) := by
    cases v <;> simp_all [Sem.run, Value.oneCell']
  simp [Instr.storeAt, Instr.sureAddr, storeVar, sizeOf, typeInfo, hi, hs, cells_oneCell h1, storeCells, store, e, hst]

theorem opw_store_one {T : TypeId} {x y : Operand} {ad : Addr} {v v0 : Value} (hT : oneB P T = true) (hx : a.eval x = .pointer (some ad)) (hy : a.eval y = v) (h1 : v.oneCell' = true) (hc : w.cell? ad = some v0) (hf : w.frozen? ad = false)
    (h : K (a.put d undef) (w.setCell ad v)) : opw P ⟨d, .store T x y, g⟩ a w K :=
  opw_skip (by simp) (fun o ho => by simp [execOp, ho, hx, hy, run_store_one hT h1 hc hf]) h

theorem add_none (b o n : Nat) : (⟨b, o, none⟩ : Addr).add n = ⟨b, o + n, none⟩ := by
  unfold Addr.add
  split <;> simp_all

theorem run_field {S f off b o : Nat} (h : fieldB P S f off = true) : (Instr.fieldAt S (.pointer (some ⟨b, o, none⟩)) f).run P w = .ok (.pointer (some ⟨b, o + off, none⟩)) w := by
  unfold fieldB at h
  split at h <;> try (simp at h; done)
  rename_i fields hu
  split at h <;> try (simp at h; done)
  rename_i fld hf
  have hf' : fields[f]? = some fld := by simpa using hf
  simp at h
  obtain ⟨h1, h2⟩ := h
  split at h2 <;> try (simp at h2; done)
  rename_i i hi
  simp at h2
  subst h1
  simp [Instr.fieldAt, run_underlying hu, hf', Instr.sureAddr, fieldPlace, sizeOf, typeInfo, hi, h2, add_none]

theorem opw_field {S f off b o : Nat} {x : Operand} (hS : fieldB P S f off = true) (hx : a.eval x = .pointer (some ⟨b, o, none⟩)) (h : K (a.put d (.pointer (some ⟨b, o + off, none⟩))) w) :
    opw P ⟨d, .fieldAddr S x f, g⟩ a w K :=
  opw_value (by simp) (fun p hp => by simp [execOp, hp, hx, run_field hS]) h

theorem slice_of {T E n : Nat} (h : sliceB P T E n = true) : P.underlying T = some (.slice E) ∧ ∃ i, P.info? E = some i ∧ i.size = n := by
  unfold sliceB at h
  split at h <;> try (simp at h; done)
  rename_i e hu
  simp at h
  obtain ⟨rfl, h2⟩ := h
  split at h2 <;> try (simp at h2; done)
  rename_i i hi
  exact ⟨hu, i, hi, by simpa using h2⟩

theorem opw_index {T E n b o len cap j : Nat} {k : IntKind} {x y : Operand} (hT : sliceB P T E n = true) (hx : a.eval x = .slice (some ⟨b, o, none⟩) len cap) (hy : a.eval y = .int k (j : Int)) (hj : j < len)
    (h : K (a.put d (.pointer (some ⟨b, o + j * n, none⟩))) w) : opw P ⟨d, .indexAddr T x y, g⟩ a w K := by
  obtain ⟨hu, i, hi, hs⟩ := slice_of hT
  refine opw_value (by simp) (fun p hp => ?_) h
  simp [execOp, hp, hx, hy, Instr.indexAt, asIntOf, run_underlying hu, hj, sizeOf, typeInfo, hi, hs, add_none]

theorem opw_len {T E n len cap : Nat} {base : Option Addr} {x : Operand} {ts : Array TypeId} (hT : sliceB P T E n = true) (hx : a.eval x = .slice base len cap) (ht : ts = #[T])
    (h : K (a.put d (.int .i64 (len : Int))) w) : opw P ⟨d, .call ⟨.builtin .len, #[x], ts⟩, g⟩ a w K := by
  subst ht
  obtain ⟨hu, _⟩ := slice_of hT
  refine opw_value (by simp) (fun p hp => ?_) h
  simp [execOp, hp, hx, resolve, invoke, builtin, Builtin.len_, run_underlying hu, goInt]

theorem opw_convert {S T : TypeId} {k k' : IntKind} {x : Operand} {n : Int} (hS : intB P S k' = true) (hT : intB P T k = true) (hx : a.eval x = .int k' n) (h : K (a.put d (.int k (k.wrap n))) w) :
    opw P ⟨d, .convert S T x, g⟩ a w K := by
  unfold intB at hS hT
  split at hS <;> try (simp at hS; done)
  split at hT <;> try (simp at hT; done)
  rename_i h1 _ _ h2
  simp at hS hT
  subst hS; subst hT
  exact opw_value (by simp) (fun p hp => by simp [execOp, hp, hx, convert, run_underlying h1, run_underlying h2, Conv.intToInt]) h

theorem run_eqGuard_int (op : BinOp) (t : TypeId) (x y : Operand) (k : IntKind) (m n : Int) : (eqGuard op t x y (.int k m) (.int k n)).run P w = .ok () w := by
  cases op <;> simp [eqGuard]

theorem opw_cmp {op : BinOp} {T T' : TypeId} {k : IntKind} {x y : Operand} {m n : Int} {r : Bool} (hx : a.eval x = .int k m) (hy : a.eval y = .int k n)
    (hr : (op = .lss ∧ r = decide (m < n)) ∨ (op = .leq ∧ r = decide (m ≤ n)) ∨ (op = .gtr ∧ r = decide (m > n)) ∨ (op = .geq ∧ r = decide (m ≥ n)) ∨ (op = .eql ∧ r = (m == n)) ∨ (op = .neq ∧ r = (m != n)))
    (h : K (a.put d (.bool r)) w) : opw P ⟨d, .binOp op T x y T', g⟩ a w K := by
  refine opw_value (by simp) (fun p hp => ?_) h
  rcases hr with ⟨rfl, rfl⟩ | ⟨rfl, rfl⟩ | ⟨rfl, rfl⟩ | ⟨rfl, rfl⟩ | ⟨rfl, rfl⟩ | ⟨rfl, rfl⟩ <;>
    simp [execOp, hp, hx, hy, run_eqGuard_int, binOp, Op.intCmp]

theorem opw_arith {op : BinOp} {T T' : TypeId} {k : IntKind} {x y : Operand} {m n r : Int} (hx : a.eval x = .int k m) (hy : a.eval y = .int k n)
    (hr : (op = .add ∧ r = k.wrap (m + n)) ∨ (op = .sub ∧ r = k.wrap (m - n)))
    (h : K (a.put d (.int k r)) w) : opw P ⟨d, .binOp op T x y T', g⟩ a w K := by
  refine opw_value (by simp) (fun p hp => ?_) h
  rcases hr with ⟨rfl, rfl⟩ | ⟨rfl, rfl⟩ <;>
    simp [execOp, hp, hx, hy, run_eqGuard_int, binOp, Op.intArith]

theorem opw_not {T : TypeId} {x : Operand} {b : Bool} (hx : a.eval x = .bool b) (h : K (a.put d (.bool !b)) w) : opw P ⟨d, .unOp .not T x, g⟩ a w K :=
  opw_value (by simp) (fun p hp => by simp [execOp, hp, hx, Op.unary]) h

theorem opw_pick {c x y : Operand} {b : Bool} (hc : a.eval c = .bool b) (h : K (a.put d (if b then a.eval x else a.eval y)) w) : opw P ⟨d, .pick c x y, g⟩ a w K :=
  opw_value (by simp) (fun p hp => by simp [execOp, hp, hc, asBool]) h

end
end Go.Proofs.Ytioodpjcpadkoaa.K
