/- How many octets a new message has; its AppendTo. No condition. -/
import Derived.Test.YtioodpjcpadkoaaS19
import Derived.Test.YtioodpjcpadkoaaK10
namespace Go.Proofs.Ytioodpjcpadkoaa.K
open Go Go.RowKit Go.Proofs.Ytioodpjcpadkoaa.T
set_option linter.unusedSimpArgs false
set_option linter.unusedVariables false
set_option maxHeartbeats 4000000

mutual
def dTy : Ty → Nat
  | .prim _ => 40
  | .list _ _ _ _ => 40
  | .struct _ _ _ _ fs => dFs fs + 40
def dFs : Fs → Nat
  | .nil => 0
  | .cons _ ty r => dTy ty + dFs r
end

theorem counted_len (flex null : Bool) (size : Nat) (h : size ≤ 8) : (counted flex null 0 size).length ≤ 8 := by
  unfold counted
  cases flex <;> cases null <;> simp [fixed_length, h, uvarint_lt]
theorem wTags_nil (flex : Bool) : (wTags flex []).length ≤ 1 := by
  cases flex <;> simp [wTags, unknown, uvarint_lt]

mutual
theorem dTy_ok (ver : Int) (flex : Bool) (h : Hd) : ∀ ty, (wField ver flex h ty (defT h ty)).length ≤ dTy ty
  | .prim k => by
    simp only [wField, wTy, defT, dTy]
    have hc2 := counted_len flex (h.isNull ver (.mk h.dflt [] (decide (0 ≤ h.null)) [] [])) 2 (by decide)
    have hc4 := counted_len flex (h.isNull ver (.mk h.dflt [] (decide (0 ≤ h.null)) [] [])) 4 (by decide)
    cases k <;> simp only [wPrim, Tree.s, PK.width, fixed_length, List.length_append, List.length_take, List.length_replicate, whole, List.take_nil, List.length_nil, ite_self, List.length_cons] <;> first | omega | decide
  | .list _ _ _ of => by
    simp only [wField, wTy, defT, dTy, Tree.l, List.take_nil, ite_self, List.length_nil, List.flatMap_nil, List.append_nil]
    have hc4 := counted_len flex (h.isNull ver (.mk h.dflt [] (decide (0 ≤ h.null)) [] [])) 4 (by decide)
    omega
  | .struct _ _ _ _ fs => by
    have h1 := dFs_ok ver flex fs
    have h2 := wTags_nil flex
    rename_i typ size dflt tags
    have e1 : (defT h (.struct typ size dflt tags fs)).l = defL fs := by simp [defT, Tree.l]
    have e2 : (defT h (.struct typ size dflt tags fs)).u = [] := by simp [defT, Tree.u]
    generalize defT h (.struct typ size dflt tags fs) = tr at *
    simp only [wField, wTy, dTy, e1, e2]
    split
    · split
      · simp
      · simp only [List.length_cons, List.length_append]
        omega
    · rw [List.length_append]
      omega
theorem dFs_ok (ver : Int) (flex : Bool) : ∀ fs, (wFs ver flex fs (defL fs)).length ≤ dFs fs
  | .nil => by simp [wFs, dFs]
  | .cons h ty r => by
    have h1 := dTy_ok ver flex h ty
    have h2 := dFs_ok ver flex r
    rw [wFs_cons]
    simp only [defL, List.headD_cons, List.tail_cons, dFs, List.length_append]
    split
    · omega
    · simp; omega
end

theorem new_len (ver : Int) (flex : Bool) (fs : Fs) (h : dFs fs ≤ 1000000) : (wFs ver flex fs (defL fs) ++ wTags flex []).length ≤ lim := by
  have h1 := dFs_ok ver flex fs
  have h2 := wTags_nil flex
  have hlim : lim = 70368744177664 := rfl
  rw [List.length_append]
  omega

/-- AppendTo of a new message -/
theorem newAT_ok {P : Program} {I : Ids} {tU8 : Nat} {f S t : Nat} {fn : Func} {flex : Option Int} {tags : Option (Nat × Nat)} {fs : Fs} {cs : Array Value} {T : TypeId} (hka : KA (fun u => u = []) P I tU8)
    (hf : P.funcs[f]? = some fn) (hb : fn.body.map strip = some (aTop I S t flex tags fs)) (hr : fn.results = #[.tmp 4]) (hok : okTop P I tU8 S t fn.ntmps flex tags fs = true) (hcs : 0 < cs.size)
    (hdef : ∀ n : Int, defOK (fun o => (cs.setIfInBounds 0 (.int .i16 n))[o]?) 0 fs = true) (hdt : ∀ n : Int, defTags (fun o => (cs.setIfInBounds 0 (.int .i16 n))[o]?) 0 tags = true) (hlen : dFs fs ≤ 1000000)
    (w : World) (b : Nat) (n : Int) (hc : w.heap[b]? = some (.cells (cs.setIfInBounds 0 (.int .i16 n)) T (0, 0))) (h0 : 0 ≤ n) (h1 : n < 32768) :
    Calls P f #[.pointer (some ⟨b, 0, none⟩), .slice none 0 0] w fun e w' => ∃ dv, e = .returned dv ∧ Own tU8 w' w.heap.size dv (wFs n (flexAt flex n) fs (defL fs) ++ wTags (flexAt flex n) []) ∧ Below w.heap.size w w' := by
  have hg : ∀ o v, (cs.setIfInBounds 0 (.int .i16 n))[o]? = some v → w.cell? ⟨b, o, none⟩ = some v := fun o v hv => by
    rw [cell_of_row _ _ _ _ _ _ hc]; exact hv
  refine appendTo_calls hka hf hb hr hok w b 0 n (defL fs) [] (Array.getElem?_eq_some_iff.1 hc).1 (hg 0 _ (by rw [Array.getElem?_setIfInBounds_self_of_lt hcs])) h0 (defOK_ok (G := fun u => u = []) (get := fun o => (cs.setIfInBounds 0 (.int .i16 n))[o]?) rfl hg n _ fs 0 (hdef n)) ?_ (new_len n _ fs hlen)
  exact defTags_ok (G := fun u => u = []) (get := fun o => (cs.setIfInBounds 0 (.int .i16 n))[o]?) rfl hg _ 0 tags (hdt n)

def fld3B (P : Program) (T : TypeId) : Bool :=
  match P.underlying T with
  | some (.struct fields) => match fields.toList[3]? with
    | some fl => fl.offset == 3 && (match P.info? fl.type with
      | some i => i.size == 1
      | none => false) && oneB P fl.type
    | none => false
  | _ => false
theorem fld3_of {P : Program} {T : TypeId} (h : fld3B P T = true) : ∃ fields fl, P.underlying T = some (.struct fields) ∧ fields.toList[3]? = some fl ∧ fl.offset = 3 ∧ (∃ i, P.info? fl.type = some i ∧ i.size = 1) ∧ oneB P fl.type = true := by
  unfold fld3B at h
  split at h <;> try (simp at h; done)
  rename_i fields hu
  split at h <;> try (simp at h; done)
  rename_i fl hf
  simp only [Bool.and_eq_true, beq_iff_eq] at h
  obtain ⟨⟨h1, h2⟩, h3⟩ := h
  split at h2 <;> try (simp at h2; done)
  rename_i i hi
  exact ⟨fields, fl, hu, hf, h1, ⟨i, hi, by simpa using h2⟩, h3⟩
def infoB (P : Program) (T : TypeId) : Bool :=
  match P.info? T with
  | some i => (match i.zero with | some (.agg ⟨[.int .i64 0, .slice none 0 0, .bool false, .slice none 0 0, .slice none 0 0]⟩) => true | _ => false) && i.size == 5 && decide (i.bytes ≤ 1000)
  | none => false
theorem info_of {P : Program} {T : TypeId} (h : infoB P T = true) : ∃ i, P.info? T = some i ∧ i.zero = some zeroTV ∧ i.size = 5 ∧ i.bytes ≤ 1000 := by
  unfold infoB at h
  split at h <;> try (simp at h; done)
  rename_i i hi
  simp only [Bool.and_eq_true, beq_iff_eq, decide_eq_true_eq] at h
  obtain ⟨⟨h1, h2⟩, h3⟩ := h
  split at h1 <;> try (simp at h1; done)
  rename_i hz
  exact ⟨i, hi, hz, h2, h3⟩

def zcOf (P : Program) (T : TypeId) : Array Value :=
  match (P.info? T).bind (·.zero) with
  | some z => z.cells
  | none => #[]
theorem zc_of {P : Program} {T : TypeId} (h : ((P.info? T).bind (·.zero)).isSome = true) : ∃ i z, P.info? T = some i ∧ i.zero = some z ∧ z.cells = zcOf P T := by
  obtain ⟨z, hz⟩ := Option.isSome_iff_exists.1 h
  obtain ⟨i, hi, hz'⟩ := Option.bind_eq_some_iff.1 hz
  exact ⟨i, z, hi, hz', by simp [zcOf, hz]⟩
end Go.Proofs.Ytioodpjcpadkoaa.K
