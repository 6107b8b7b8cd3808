/- A message's AppendTo writes what the schema says: loops, parts and tags. No condition. -/
import Derived.Test.YtioodpjcpadkoaaK5
import Derived.IntWalk
namespace Go.Proofs.Ytioodpjcpadkoaa.K
open Go Go.RowKit Go.Proofs.Ytioodpjcpadkoaa.T

def ptrB (P : Program) (T : TypeId) : Bool :=
  match P.underlying T with
  | some (.pointer _) => true
  | _ => false

/-- T is a slice of octets -/
def u8sB (P : Program) (T tU8 : TypeId) : Bool :=
  match P.underlying T, P.info? tU8 with
  | some (.slice e), some i => e == tU8 && (match i.zero with | some (.int .u8 0) => true | _ => false) && i.size == 1 && i.bytes == 1
  | _, _ => false

section
variable {P : Program} {a : Act} {w : World} {K : Act → World → Prop} {d : Option Tmp} {g : Option (Nat × Bool)}

theorem opw_eqlnil_slice {T E n : Nat} {x : Operand} {base : Option Addr} {len cap : Nat} (hT : sliceB P T E n = true) (hx : a.eval x = .slice base len cap) (h : K (a.put d (.bool base.isNone)) w) :
    opw P ⟨d, .binOp .eql T x (.const (.slice none 0 0)) T, g⟩ a w K := by
  obtain ⟨hu, _⟩ := slice_of hT
  refine opw_value (by simp) (fun p hp => ?_) h
  have hr : (Op.equal T (.slice base len cap) (.slice none 0 0)).run P w = .ok base.isNone w := by
    have key : ∀ dd, (Op.equalIn (dd + 1) T (.slice base len cap) (.slice none 0 0)).run P w = .ok base.isNone w := by
      intro dd
      cases base <;> simp [Op.equalIn, run_underlying hu]
    exact key 9999
  simp only [execOp, hp, hx, eval_const, binOp, eqGuard]
  simp [hr]

theorem opw_eqlnil_ptr {T : Nat} {x : Operand} {q : Option Addr} (hT : ptrB P T = true) (hx : a.eval x = .pointer q) (h : K (a.put d (.bool q.isNone)) w) :
    opw P ⟨d, .binOp .eql T x (.const (.pointer none)) T, g⟩ a w K := by
  unfold ptrB at hT
  split at hT <;> try (simp at hT; done)
  rename_i e hu
  refine opw_value (by simp) (fun p hp => ?_) h
  have hr : (Op.equal T (.pointer q) (.pointer none)).run P w = .ok q.isNone w := by
    have key : ∀ dd, (Op.equalIn (dd + 1) T (.pointer q) (.pointer none)).run P w = .ok q.isNone w := by
      intro dd
      cases q <;> simp [Op.equalIn, run_underlying hu]
    exact key 9999
  simp only [execOp, hp, hx, eval_const, binOp, eqGuard]
  simp [hr]

theorem u8s_of {T tU8 : Nat} (h : u8sB P T tU8 = true) : P.underlying T = some (.slice tU8) ∧ ∃ i, P.info? tU8 = some i ∧ i.zero = some (.int .u8 0) ∧ i.size = 1 ∧ i.bytes = 1 := by
  unfold u8sB at h
  split at h <;> try (simp at h; done)
  rename_i e i hu hi
  simp at h
  obtain ⟨⟨⟨rfl, h2⟩, h3⟩, h4⟩ := h
  refine ⟨hu, i, hi, ?_, h3, h4⟩
  split at h2 <;> simp_all

theorem opw_byteSlice {T tU8 : Nat} {n : Int} (hT : u8sB P T tU8 = true) (h : K (a.put d (.slice (some ⟨w.heap.size, 0, none⟩) 1 1)) (w.alloc (.cells #[.int .u8 n] tU8))) :
    opw P ⟨d, .buildSlice T 1 #[(0, .const (.int .u8 n))], g⟩ a w K := by
  obtain ⟨hu, i, hi, hz, hs, _⟩ := u8s_of hT
  refine opw_value (w' := w.alloc (.cells #[.int .u8 n] tU8)) (by simp) (fun p hp => ?_) h
  have hr1 : Array.range 1 = #[0] := by decide
  have hfill : Instr.fill (fun j => some (j, 1)) #[Value.int .u8 0] [(0, Value.int .u8 n)] = some #[.int .u8 n] := by
    simp [Instr.fill, Value.cells]
  simp [execOp, hp, Instr.buildSlice, run_underlying hu, sizeOf, typeInfo, zeroValue, hi, hz, hs, Value.cells, eval_const, newRow, hr1, hfill]
end

section
variable {X : Fix} {a : Act} {w : World} {xs : Bytes}

theorem own_u8 {tU8 : Nat} {w : World} {B : Nat} {dv : Value} {xs : Bytes} (h : Own tU8 w B dv xs) : ∀ k, dv.ownBlock = some k → B ≤ k := fun k hk => (h.lt k hk).1

/-- one octet behind what stands there -/
theorem aByte_ok {n : Int} {t lo : Nat} {u : UInt8} (hX : X.ok) (hn : n = (u.toNat : Int)) (hlo : lo ≤ X.T0) (hlv : X.c.ver < lo) (hlf : X.c.flex < lo) (ht : X.T0 ≤ t) (htN : t + 3 ≤ X.N) (hT : u8sB X.P X.I.tU8s X.tU8 = true) :
    AFrag X (aByte X.I n t) (fun _ => True) lo t [u] := by
  intro a w xs Q hi hp hlen hQ
  have h1 := hX.oneT
  have hsz := hi.size
  obtain ⟨hu, i, hinf, hz, hs, hby⟩ := u8s_of hT
  refine SC.wp_reg (ops_mv (opsw_none rfl (opw_byteSlice hT (opsw_none rfl ?_))))
  have hown : Own X.tU8 (w.alloc (.cells #[.int .u8 n] X.tU8)) X.B (getT a 1) xs := hi.own.alloc _
  have hc : ∀ j v, [cell u][j]? = some v → (w.alloc (.cells #[.int .u8 n] X.tU8)).cell? ((⟨w.heap.size, 0, none⟩ : Addr).add j) = some v := by
    intro j v hv
    cases j with
    | zero =>
      simp at hv
      subst hv
      rw [show (⟨w.heap.size, 0, none⟩ : Addr).add 0 = ⟨w.heap.size, 0, none⟩ from add_none _ _ _, cell_of_row _ _ _ _ _ _ (heap_alloc_new w (.cells #[.int .u8 n] X.tU8))]
      simp [cell, hn]
    | succ j => simp at hv
  obtain ⟨v', w', hr, h2, h3, _⟩ := run_append_own (P := X.P) (w.alloc (.cells #[.int .u8 n] X.tU8)) X.B X.I.tU8s X.I.tU8s X.tU8 i (.int .u8 0) 1 1 hu hinf hz hs hby rfl (by decide)
    (getT a 1) xs.length (cellsOf xs) hown ⟨w.heap.size, 0, none⟩ 1 1 [cell u] rfl hc (by simp [cell, Value.oneCell']) (by simp [lim] at hlen; simp [maxLen]; omega) (by simp [lim] at hlen; omega) (by have := hi.heap; simp; omega)
  refine opw_value (v := v') (w' := w') (by simp) ?_ (ops_asg (ops_nil ?_))
  · intro o ho
    have e1 : getT ((a.put (some t) (getT a 1)).put (some (t + 1)) (.slice (some ⟨w.heap.size, 0, none⟩) 1 1)) t = getT a 1 := by
      simp (disch := first | omega | (simp only [size_put]; omega)) [getT_put, getT_put_ne]
    have e2 : getT ((a.put (some t) (getT a 1)).put (some (t + 1)) (.slice (some ⟨w.heap.size, 0, none⟩) 1 1)) (t + 1) = .slice (some ⟨w.heap.size, 0, none⟩) 1 1 := by
      simp (disch := first | omega | (simp only [size_put]; omega)) [getT_put]
    have hr' : (Builtin.append_ #[X.I.tU8s, X.I.tU8s] o.type #[getT a 1, .slice (some ⟨w.heap.size, 0, none⟩) 1 1]).run X.P (w.alloc (.cells #[.int .u8 n] X.tU8)) = .ok v' w' := hr
    simp [execOp, ho, resolve, invoke, builtin, eval_tmp, e1, e2, hr']
  have hb : Below X.B w w' := ((Below.refl X.B w).alloc hi.heap _).grown h3 (by have := hi.heap; simp; omega) (fun k hk => own_u8 hown k hk)
  have hh : X.B ≤ w'.heap.size := by
    have := h3.size
    have := hi.heap
    simp at *
    omega
  refine hQ _ _ (hi.step hX (lo := lo) (t := t) (by simp [size_put]) (by simp [defers_put]) ?_ hlv hlf ?_ hb hh) ?_ trivial
  · intro s hs1 hs2
    simp (disch := first | omega | (simp only [size_put]; omega)) [getT_put_ne]
  · simp (disch := first | omega | (simp only [size_put]; omega)) [getT_put]
    have : Own X.tU8 w' X.B v' (xs ++ [u]) := by
      unfold Own
      rw [cellsOf_append]
      simpa [cellsOf] using h2
    exact this
  · intro s hs1 hs2
    simp (disch := first | omega | (simp only [size_put]; omega)) [getT_put_ne]

end
end Go.Proofs.Ytioodpjcpadkoaa.K
