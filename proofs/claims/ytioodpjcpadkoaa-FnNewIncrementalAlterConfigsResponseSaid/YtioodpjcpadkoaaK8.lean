/- A message's AppendTo writes what the schema says: the whole of a part, by induction on the schema. No condition. -/
import Derived.Test.YtioodpjcpadkoaaK7
namespace Go.Proofs.Ytioodpjcpadkoaa.K
open Go Go.RowKit Go.Proofs.Ytioodpjcpadkoaa.T

/-- T is a type of n octets that lies in so many cells, with a zero value -/
def arrB (P : Program) (T n : Nat) : Bool :=
  aggB P T n && (match P.info? T with
    | some i => match i.zero with
      | some z => z.cells.size == n
      | none => false
    | none => false)

def okTags (P : Program) (I : Ids) (c : Ctx) (S : Nat) : Option (Nat × Nat) → Bool
  | none => c.never
  | some (f, off) => !c.never && fieldB P S f off && intB P I.tInt .i64 && intB P I.tU32 .u32 && I.tagsLen != 0 && I.tagsEach != 0 && I.aUvar != 0
def okLen (I : Ids) (c : Ctx) (nul : Bool) : Bool := if nul then (c.never || I.aCNArr != 0) && I.aNArr != 0 else (c.never || I.aCArr != 0) && I.aArr != 0

mutual
def okElem (P : Program) (I : Ids) (c : Ctx) (tU8 E size : Nat) : Ty → Bool
  | .prim k => k != .uuid && size == 1 && oneB P E && okApp I c false k
  | .list _ _ _ _ => false
  | .struct S sz _ tags fs => S == E && sz == size && okTags P I c S tags && okFs P I c tU8 S fs
def okVal (P : Program) (I : Ids) (c : Ctx) (tU8 : Nat) (h : Hd) : Ty → Bool
  | .prim k =>
    if k = .uuid then decide (h.null < 0) && !h.enum && arrB P h.typ 16 && I.aUuid != 0
    else oneB P h.typ && (!h.enum || decide (k = .i8)) && okApp I c (decide (0 ≤ h.null)) k
  | .list T E size of => !h.enum && h.typ == T && oneB P T && sliceB P T E size && okLen I c (decide (0 ≤ h.null)) && okElem P I c tU8 E size of
  | .struct S _ _ tags fs => !h.enum && (decide (h.null < 0) || (oneB P h.typ && ptrB P h.typ && u8sB P I.tU8s tU8)) && okTags P I c S tags && okFs P I c tU8 S fs
def okFs (P : Program) (I : Ids) (c : Ctx) (tU8 S : Nat) : Fs → Bool
  | .nil => true
  | .cons h ty r => fieldB P S h.idx h.off && (decide (h.null < 0) || decide (h.null ≤ h.from_)) && okVal P I c tU8 h ty && okFs P I c tU8 S r
end

section
variable {P : Program} {a : Act} {w : World} {K : Act → World → Prop} {d : Option Tmp} {g : Option (Nat × Bool)}

theorem agg_of {T n : Nat} (h : aggB P T n = true) : ∃ i, P.info? T = some i ∧ i.size = n ∧ (isAgg T).run P w = .ok true w := by
  unfold aggB at h
  split at h <;> try (simp at h; done)
  · rename_i i f hi hu
    exact ⟨i, hi, by simpa using h, by simp [isAgg, run_underlying hu]⟩
  · rename_i i m e hi hu
    exact ⟨i, hi, by simpa using h, by simp [isAgg, run_underlying hu]⟩

theorem run_load_agg {T b o : Nat} {cs : List Value} (hT : aggB P T cs.length = true) (hc : ∀ j v, cs[j]? = some v → w.cell? ⟨b, o + j, none⟩ = some v) :
    (Instr.loadAt T (.pointer (some ⟨b, o, none⟩))).run P w = .ok (.agg cs.toArray) w := by
  obtain ⟨i, hi, hs, ha⟩ := agg_of (w := w) hT
  have hl := run_loadCells_list (P := P) w ⟨b, o, none⟩ cs (fun j v hv => by rw [add_none]; exact hc j v hv)
  simp [Instr.loadAt, Instr.sureAddr, loadVar, ha, sizeOf, typeInfo, hi, hs, hl]

theorem opw_load_agg {T b o : Nat} {x : Operand} {cs : List Value} (hT : aggB P T cs.length = true) (hx : a.eval x = .pointer (some ⟨b, o, none⟩)) (hc : ∀ j v, cs[j]? = some v → w.cell? ⟨b, o + j, none⟩ = some v)
    (h : K (a.put d (.agg cs.toArray)) w) : opw P ⟨d, .load T x, g⟩ a w K :=
  opw_value (by simp) (fun p hp => by simp [execOp, hp, hx, run_load_agg hT hc]) h

theorem arr_of {T n : Nat} (h : arrB P T n = true) : aggB P T n = true ∧ ∃ i z, P.info? T = some i ∧ i.zero = some z ∧ z.cells.size = n := by
  unfold arrB at h
  simp only [Bool.and_eq_true] at h
  refine ⟨h.1, ?_⟩
  obtain ⟨-, h⟩ := h
  split at h <;> try (simp at h; done)
  rename_i i hi
  split at h <;> try (simp at h; done)
  rename_i z hz
  exact ⟨i, z, hi, hz, by simpa using h⟩

theorem opw_alloc {T : Nat} {i : TypeInfo} {z : Value} (hi : P.info? T = some i) (hz : i.zero = some z) (h : K (a.put d (.pointer (some ⟨w.heap.size, 0, none⟩))) (w.alloc (.cells z.cells T))) :
    opw P ⟨d, .alloc T, g⟩ a w K := by
  refine opw_value (w' := w.alloc (.cells z.cells T)) (by simp) (fun p hp => ?_) h
  simp [execOp, hp, Instr.alloc, zeroValue, typeInfo, hi, hz, newVar, newRow]

/-- a whole row is stored -/
theorem opw_store_agg {T b : Nat} {E : TypeId} {x y : Operand} {cur : Array Value} {cs : List Value} (hT : aggB P T cs.length = true) (hx : a.eval x = .pointer (some ⟨b, 0, none⟩)) (hy : a.eval y = .agg cs.toArray)
    (hb : w.heap[b]? = some (.cells cur E (0, 0))) (hc : cur.size = cs.length) (h1 : ∀ v ∈ cs, v.oneCell' = true) (h : K (a.put d undef) (w.setRow b cs.toArray)) :
    opw P ⟨d, .store T x y, g⟩ a w K := by
  obtain ⟨i, hi, hs, _⟩ := agg_of (w := w) hT
  refine opw_skip (w' := w.setRow b cs.toArray) (by simp) (fun p hp => ?_) h
  have hst := run_storeCells_at P b 0 E cs 0 cur w hb (by omega) h1
  have hd : cur.toList.drop cs.length = [] := by simp; omega
  simp [hd] at hst
  simp [execOp, hp, hx, hy, Instr.storeAt, Instr.sureAddr, storeVar, sizeOf, typeInfo, hi, hs, Value.cells, hst]
end

section
variable {X : Fix} {a : Act} {w : World} {xs : Bytes}

/-- a run of pieces -/
inductive AList (X : Fix) (pre : Act → Prop) (lo t : Nat) : List SC → Bytes → Prop where
  | nil : AList X pre lo t [] []
  | cons {x : SC} {l : List SC} {o1 o2 : Bytes} (h1 : AFrag X x pre lo t o1) (h2 : AList X pre lo t l o2) : AList X pre lo t (x :: l) (o1 ++ o2)

theorem AList.append {pre : Act → Prop} {lo t : Nat} {l l' : List SC} {o o' : Bytes} (h : AList X pre lo t l o) (h' : AList X pre lo t l' o') : AList X pre lo t (l ++ l') (o ++ o') := by
  induction h with
  | nil => exact h'
  | cons h1 _ ih => rw [List.cons_append, List.append_assoc]; exact .cons h1 ih

theorem AList.mono {pre : Act → Prop} {lo t lo' t' : Nat} {l : List SC} {o : Bytes} (h : AList X pre lo t l o) (hl : lo' ≤ lo) (ht : t' ≤ t) : AList X pre lo' t' l o := by
  induction h with
  | nil => exact .nil
  | cons h1 _ ih => exact .cons (h1.mono (fun _ h => h) (fun _ h => h) hl ht) ih

theorem AList.frag {pre : Act → Prop} {lo t : Nat} {l : List SC} {o : Bytes} (h : AList X pre lo t l o) (hst : ∀ a a', Same X a a' lo t → pre a → pre a') : AFrag X (seqs l) pre lo t o := by
  induction h with
  | nil => exact AFrag.skip
  | cons h1 h2 ih =>
    cases h2 with
    | nil => simpa [seqs] using h1
    | cons h3 h4 => exact h1.seq ih (fun a a' hp hs _ => hst a a' hs hp) (Nat.le_refl _) (Nat.le_refl _)

/-- a first piece that sets slots, and a run behind it -/
theorem AList.behind {x : SC} {pre mid pre2 : Act → Prop} {lo t lo2 t2 : Nat} {l : List SC} {o1 o2 : Bytes} (h1 : AFragP X x pre mid lo t o1) (h2 : AList X pre2 lo2 t2 l o2) (hst : ∀ a a', Same X a a' lo2 t2 → pre2 a → pre2 a')
    (hm : ∀ a a', pre a → Same X a a' lo t → mid a' → pre2 a') (hl : lo ≤ lo2) (ht : t ≤ t2) : AFrag X (seqs (x :: l)) pre lo t (o1 ++ o2) := by
  cases h2 with
  | nil => simpa [seqs] using h1.mono (fun _ h => h) (fun _ _ => trivial) (Nat.le_refl _) (Nat.le_refl _)
  | cons h3 h4 => exact h1.seq ((AList.cons h3 h4).frag hst) hm hl ht

theorem cells_cell {bs : Bytes} {w : World} {b o : Nat} (h : ∀ j u, bs[j]? = some u → w.cell? ⟨b, o + j, none⟩ = some (cell u)) : ∀ j v, (cellsOf bs)[j]? = some v → w.cell? ⟨b, o + j, none⟩ = some v := by
  intro j v hv
  simp only [cellsOf, List.getElem?_map, Option.map_eq_some_iff] at hv
  obtain ⟨u, hu, rfl⟩ := hv
  exact h j u hu

theorem uuidOf_length (t : Tree) : (uuidOf t).length = 16 := by simp [uuidOf]

/-- sixteen octets -/
theorem aUuid_ok {S p v t b o lo : Nat} {h : Hd} {tr : Tree} (hX : X.ok) (hlo : lo ≤ v) (hlv : X.c.ver < lo) (hlf : X.c.flex < lo) (hv : v < X.T0) (hv1 : v ≠ 1) (ht : X.T0 ≤ t) (htN : t + 7 ≤ X.N) (hS : fieldB X.P S h.idx h.off = true)
    (hT : arrB X.P h.typ 16 = true) (hU : X.I.aUuid ≠ 0) (hb : b < X.B) (hc : ∀ j u, (uuidOf tr)[j]? = some u → X.w0.cell? ⟨b, o + h.off + j, none⟩ = some (cell u)) :
    AFrag X (aVal X.I X.c S p h v t 0 (.prim .uuid)) (fun a => getT a p = .pointer (some ⟨b, o, none⟩)) lo t (uuidOf tr) := by
  intro a w xs Q hi hp hlen hQ
  have h1 := hX.oneT
  have hsz := hi.size
  obtain ⟨hagg, i, z, hinf, hz, hzs⟩ := arr_of hT
  have hl16 : (cellsOf (uuidOf tr)).length = 16 := by rw [cellsOf_length, uuidOf_length]
  have hagg' : aggB X.P h.typ (cellsOf (uuidOf tr)).length = true := by rw [hl16]; exact hagg
  unfold aVal
  rw [if_pos rfl]
  refine SC.wp_seq (SC.wp_reg (ops_mv (ops_nilc (ad := ⟨b, o, none⟩) (by rw [getT_put (by omega)]; exact hp) (ops_fa hS (b := b) (o := o) (by rw [getT_put (by simp only [size_put]; omega)]) ?_))))
  refine opsw_none rfl (opw_load_agg hagg' (b := b) (o := o + h.off) (by rw [eval_tmp, getT_put (by simp only [size_put]; omega)]) ?_ (opsw_none rfl (opw_alloc hinf hz (opsw_none rfl ?_))))
  · refine cells_cell ?_
    intro j u hu
    rw [hi.below.cell hb]
    exact hc j u hu
  refine opw_store_agg (b := w.heap.size) (E := h.typ) (cur := z.cells) hagg' ?_ ?_ (heap_alloc_new w _) (by rw [hl16]; exact hzs) ?_ (ops_nil ?_)
  · rw [eval_tmp, getT_put (by simp only [size_put]; omega)]
  · rw [eval_tmp, getT_put_ne (by omega), getT_put (by simp only [size_put]; omega)]
  · intro v hv
    simp only [cellsOf, List.mem_map] at hv
    obtain ⟨u, _, rfl⟩ := hv
    rfl
  generalize hw1 : (w.alloc (.cells z.cells h.typ)).setRow w.heap.size (cellsOf (uuidOf tr)).toArray = w1
  have hrow : w1.heap[w.heap.size]? = some (.cells (cellsOf (uuidOf tr)).toArray h.typ (0, 0)) := by
    rw [← hw1]
    exact setRow_heap _ _ _ _ _ _ (heap_alloc_new w _)
  have hold : ∀ k, k < w.heap.size → w1.heap[k]? = w.heap[k]? := by
    intro k hk
    rw [← hw1, setRow_other _ _ _ _ (by omega)]
    exact Below.heap_alloc _ _ _ hk
  have hbel : Below w.heap.size w w1 := ⟨by rw [← hw1]; rfl, by rw [← hw1]; rfl, by rw [← hw1]; rfl, by rw [← hw1]; simp, hold⟩
  have hsz1 : w1.heap.size = w.heap.size + 1 := by rw [← hw1]; simp
  have hheap := hi.heap
  have hb1 : Below X.B w w1 := hbel.mono hheap
  have hh1 : X.B ≤ w1.heap.size := by omega
  have hown1 : Own X.tU8 w1 X.B (getT a 1) xs := by
    obtain ⟨q1, q2⟩ := hi.own
    refine ⟨q1, ?_⟩
    rcases q2 with q2 | ⟨g, cap, cur, e1, e2, e3, e4⟩
    · exact .inl q2
    · exact .inr ⟨g, cap, cur, e1, e2, by rw [hold g (Array.getElem?_eq_some_iff.1 e3).1]; exact e3, e4⟩
  rw [put_none]
  generalize ha1 : (((((a.put (some t) (getT a p)).put (some (t + 1)) (.pointer (some ⟨b, o, none⟩))).put (some (t + 2)) (.pointer (some ⟨b, o + h.off, none⟩))).put (some (t + 3)) (.agg (cellsOf (uuidOf tr)).toArray)).put (some v) (.pointer (some ⟨w.heap.size, 0, none⟩))) = a1
  have hs1 : a1.tmps.size = X.N := by rw [← ha1]; simp [size_put, hsz]
  have hd1 : a1.defers = a.defers := by rw [← ha1]; simp [defers_put]
  have hv1' : getT a1 v = .pointer (some ⟨w.heap.size, 0, none⟩) := by rw [← ha1]; simp (disch := first | omega | (simp only [size_put]; omega)) [getT_put]
  have hS1 : ∀ s, s ≠ v → s < t → getT a1 s = getT a s := by
    intro s h1 h2
    rw [← ha1]
    simp (disch := omega) [getT_put_ne]
  clear ha1 hw1
  refine SC.wp_reg (ops_mv (opsw_none rfl ?_))
  refine opw_load_agg hagg' (b := w.heap.size) (o := 0) ?_ ?_ ?_
  · rw [eval_tmp, getT_put_ne (by omega)]
    exact hv1'
  · intro j u hu
    rw [Nat.zero_add, cell_of_row _ _ _ _ _ _ hrow]
    simpa using hu
  have hAP := hX.ka.uuid hU (uuidOf tr) (uuidOf_length tr)
  refine ops_cal hAP.1 (R := fun e w' => ∃ dv', e = .returned dv' ∧ Own X.tU8 w' X.B dv' (xs ++ uuidOf tr) ∧ Below X.B w1 w' ∧ X.B ≤ w'.heap.size) ?_ ?_
  · have hc2 := hAP.2 w1 X.B (getT a 1) xs hown1 hh1 hlen trivial
    have e : (([t + 4, t + 5].map (getT ((a1.put (some (t + 4)) (getT a1 1)).put (some (t + 5)) (.agg (cellsOf (uuidOf tr)).toArray))) : List Value)).toArray = #[getT a 1] ++ #[.agg (cellsOf (uuidOf tr)).toArray] := by
      simp (disch := first | omega | (simp only [size_put]; omega)) [getT_put, getT_put_ne, hS1 1]
    rw [e]
    exact hc2
  · rintro e w' ⟨dv', rfl, ho, hbl, hh⟩
    refine ⟨dv', rfl, ops_asg (ops_nil ?_)⟩
    refine hQ _ _ (hi.step hX (lo := lo) (t := t) (by simp [size_put, hs1, hsz]) (by simp [defers_put, hd1]) ?_ hlv hlf ?_ (hb1.trans hbl) hh) ?_ trivial
    · intro s hs1 hs2
      simp (disch := first | omega | (simp only [size_put]; omega)) [getT_put_ne]
      exact hS1 s (by omega) (by omega)
    · simp (disch := first | omega | (simp only [size_put]; omega)) [getT_put]
      exact ho
    · intro s hs1 hs2
      simp (disch := first | omega | (simp only [size_put]; omega)) [getT_put_ne]
      exact hS1 s (by omega) (by omega)

/-- the length of a list -/
theorem aLen_ok {nul : Bool} {T E n v t lo cnt cap : Nat} {base : Option Addr} (hX : X.ok) (hlo : lo ≤ X.T0) (hlv : X.c.ver < lo) (hlf : X.c.flex < lo) (hv : v < lo) (hv1 : v ≠ 1) (ht : X.T0 ≤ t) (htN : t + aLenT X.c nul ≤ X.N) (hT : sliceB X.P T E n = true)
    (hok : okLen X.I X.c nul = true) (hcnt : cnt ≤ most) :
    AFrag X (aLen X.I X.c nul T v t) (fun a => getT a v = .slice base cnt cap) lo t (counted X.flex (nul && base.isNone) cnt 4) := by
  have h1 := hX.oneT
  have plain : ∀ (f t : Nat) (out : Bytes), AP X.P X.tU8 f #[.int .i64 (cnt : Int)] (fun _ _ => True) out → X.T0 ≤ t → t + 4 ≤ X.N →
      AFrag X (.reg [mv t 1, mv (t + 1) v, lenOp (t + 2) T (t + 1), cal (t + 3) f [t, t + 2], asg 1 (t + 3)]) (fun a => getT a v = .slice base cnt cap) lo t out := by
    intro f t out hAP ht htN a w xs Q hi hp hlen hQ
    have hsz := hi.size
    refine SC.wp_reg (ops_mv (ops_mv (ops_len hT (base := base) (len := cnt) (cap := cap) (by rw [getT_put (by simp only [size_put]; omega), getT_put_ne (by omega)]; exact hp) ?_)))
    refine ops_cal hAP.1 (R := fun e w' => ∃ dv', e = .returned dv' ∧ Own X.tU8 w' X.B dv' (xs ++ out) ∧ Below X.B w w' ∧ X.B ≤ w'.heap.size) ?_ ?_
    · have hc := hAP.2 w X.B (getT a 1) xs hi.own hi.heap hlen trivial
      refine Eq.mp (congrArg (fun z => Calls X.P f z w _) ?_) hc
      simp (disch := first | omega | (simp only [size_put]; omega)) [getT_put, getT_put_ne]
    · rintro e w' ⟨dv', rfl, ho, hb, hh⟩
      refine ⟨dv', rfl, ops_asg (ops_nil ?_)⟩
      refine hQ _ _ (hi.step hX (lo := lo) (t := t) (by simp [size_put]) (by simp [defers_put]) ?_ hlv hlf ?_ hb hh) ?_ trivial
      · intro s hs1 hs2
        simp (disch := first | omega | (simp only [size_put]; omega)) [getT_put_ne]
      · simp (disch := first | omega | (simp only [size_put]; omega)) [getT_put]
        exact ho
      · intro s hs1 hs2
        simp (disch := first | omega | (simp only [size_put]; omega)) [getT_put_ne]
  have nulls : ∀ (f t : Nat) (out : Bytes), AP X.P X.tU8 f #[.int .i64 (cnt : Int), .bool base.isNone] (fun _ _ => True) out → X.T0 ≤ t → t + 6 ≤ X.N →
      AFrag X (.reg [mv t 1, mv (t + 1) v, lenOp (t + 2) T (t + 1), mv (t + 3) v, bin .eql (t + 4) T (t + 3) (.const (.slice none 0 0)), cal (t + 5) f [t, t + 2, t + 4], asg 1 (t + 5)]) (fun a => getT a v = .slice base cnt cap) lo t out := by
    intro f t out hAP ht htN a w xs Q hi hp hlen hQ
    have hsz := hi.size
    refine SC.wp_reg (ops_mv (ops_mv (ops_len hT (base := base) (len := cnt) (cap := cap) (by rw [getT_put (by simp only [size_put]; omega), getT_put_ne (by omega)]; exact hp) (ops_mv (opsw_none rfl (opw_eqlnil_slice hT (base := base) (len := cnt) (cap := cap) ?_ ?_))))))
    · simp (disch := first | omega | (simp only [size_put]; omega)) [eval_tmp, getT_put, getT_put_ne]
      exact hp
    refine ops_cal hAP.1 (R := fun e w' => ∃ dv', e = .returned dv' ∧ Own X.tU8 w' X.B dv' (xs ++ out) ∧ Below X.B w w' ∧ X.B ≤ w'.heap.size) ?_ ?_
    · have hc := hAP.2 w X.B (getT a 1) xs hi.own hi.heap hlen trivial
      refine Eq.mp (congrArg (fun z => Calls X.P f z w _) ?_) hc
      simp (disch := first | omega | (simp only [size_put]; omega)) [getT_put, getT_put_ne]
    · rintro e w' ⟨dv', rfl, ho, hb, hh⟩
      refine ⟨dv', rfl, ops_asg (ops_nil ?_)⟩
      refine hQ _ _ (hi.step hX (lo := lo) (t := t) (by simp [size_put]) (by simp [defers_put]) ?_ hlv hlf ?_ hb hh) ?_ trivial
      · intro s hs1 hs2
        simp (disch := first | omega | (simp only [size_put]; omega)) [getT_put_ne]
      · simp (disch := first | omega | (simp only [size_put]; omega)) [getT_put]
        exact ho
      · intro s hs1 hs2
        simp (disch := first | omega | (simp only [size_put]; omega)) [getT_put_ne]
  unfold aLen
  cases nul with
  | true =>
    simp only [aLenT, if_true, okLen, fTmps, Bool.and_eq_true, bne_iff_ne, ne_eq, Bool.or_eq_true, Bool.true_and] at htN hok ⊢
    refine fCond_ok hX hlo hlv hlf ht (by split at htN <;> omega) (stable_slot hv hv1) (fun hn hf => ?_) (fun hf t' ht1 ht2 hiff hor => ?_)
    · rw [hf]
      exact nulls _ _ _ (hX.ka.cnarr (by simpa [hn] using hok.1) cnt _ hcnt) (by omega) (by rw [if_neg (by simp [hn])] at htN; omega)
    · rw [hf]
      refine nulls _ _ _ (hX.ka.narr hok.2 cnt _ hcnt) (by omega) ?_
      by_cases hn : X.c.never = true
      · rw [if_pos hn] at htN
        have := hiff.2 hn
        omega
      · rw [if_neg hn] at htN
        rcases hor with h | h
        · exact absurd (hiff.1 h) hn
        · omega
  | false =>
    simp only [aLenT, Bool.false_eq_true, if_false, okLen, fTmps, Bool.and_eq_true, bne_iff_ne, ne_eq, Bool.or_eq_true, Bool.false_and] at htN hok ⊢
    refine fCond_ok hX hlo hlv hlf ht (by split at htN <;> omega) (stable_slot hv hv1) (fun hn hf => ?_) (fun hf t' ht1 ht2 hiff hor => ?_)
    · rw [hf]
      exact plain _ _ _ (hX.ka.carr (by simpa [hn] using hok.1) cnt hcnt) (by omega) (by rw [if_neg (by simp [hn])] at htN; omega)
    · rw [hf]
      refine plain _ _ _ (hX.ka.arr hok.2 cnt hcnt) (by omega) ?_
      by_cases hn : X.c.never = true
      · rw [if_pos hn] at htN
        have := hiff.2 hn
        omega
      · rw [if_neg hn] at htN
        rcases hor with h | h
        · exact absurd (hiff.1 h) hn
        · omega

theorem hTags_below {w0 w : World} {B b o : Nat} {u : List (Nat × Bytes)} (h : HTags X.G w0 (· < B) b o u) (hbB : b < B) (hb : Below B w0 w) : HTags X.G w (· < B) b o u := by
  obtain ⟨h0, h1, h2, h3, h4⟩ := h
  refine ⟨h0, h1, h2, h3, ?_⟩
  rcases h4 with ⟨h4, h5⟩ | ⟨r, es, clock, h4, hr, h5, h6, h7⟩
  · exact .inl ⟨by rw [hb.cell hbB]; exact h4, h5⟩
  · refine .inr ⟨r, es, clock, by rw [hb.cell hbB]; exact h4, hr, by rw [hb.block r hr]; exact h5, h6, ?_⟩
    intro e he x hx hk
    obtain ⟨base, cap, q1, q2⟩ := h7 e he x hx hk
    exact ⟨base, cap, q1, bytesAt_below q2 hb⟩

/-- the tags -/
theorem aTags_ok {S p f off t b o lo : Nat} {u : List (Nat × Bytes)} (hX : X.ok) (hlo : lo ≤ X.T0) (hlv : X.c.ver < lo) (hlf : X.c.flex < lo) (hp : p < lo) (hp1 : p ≠ 1) (ht : X.T0 ≤ t) (htN : t + 14 ≤ X.N) (hb : b < X.B)
    (hok : okTags X.P X.I X.c S (some (f, off)) = true) (hu : X.flex = true → HTags X.G X.w0 (· < X.B) b (o + off) u) :
    AFrag X (aTags X.I X.c S p f t) (fun a => getT a p = .pointer (some ⟨b, o, none⟩)) lo t (wTags X.flex u) := by
  have h1 := hX.oneT
  simp only [okTags, Bool.and_eq_true, Bool.not_eq_true', bne_iff_ne, ne_eq] at hok
  obtain ⟨⟨⟨⟨⟨⟨hn, hS⟩, hI⟩, hU⟩, hl0⟩, he0⟩, hu0⟩ := hok
  intro a w xs Q hi hpp hlen hQ
  have hsz := hi.size
  unfold aTags
  refine SC.wp_seq (SC.wp_reg (ops_mv (ops_nil ?_)))
  refine SC.wp_cond (t := X.flex) (by rw [eval_tmp, getT_put (by omega)]; exact hi.flex hn) ?_
  have hS0 : ∀ s, s ≠ t → getT (a.put (some t) (getT a X.c.flex)) s = getT a s := fun s hs => getT_put_ne hs
  generalize ha0 : a.put (some t) (getT a X.c.flex) = a0 at hS0
  have hs0 : a0.tmps.size = X.N := by rw [← ha0]; simp [size_put, hsz]
  have hd0 : a0.defers = a.defers := by rw [← ha0]; simp [defers_put]
  by_cases hf : X.flex = true
  · have hT := hu hf
    obtain ⟨-, hk, hk2, hk3, -⟩ := id hT
    rw [if_pos hf]
    have hout : wTags X.flex u = uvarint u.length ++ u.flatMap wTag := by simp [wTags, hf, hk]
    rw [hout] at hlen hQ
    obtain ⟨hfl, hcl⟩ := hX.ka.tagsLen hl0
    obtain ⟨hfe, hce⟩ := hX.ka.tagsEach he0
    have hAP := hX.ka.uvar hu0 u.length (by simp only [most] at hk2; omega)
    have hT1 := hTags_below hT hb hi.below
    refine SC.wp_seq (SC.wp_reg (ops_mv (ops_mv (ops_nilc (ad := ⟨b, o, none⟩) ?_ (ops_fa hS (b := b) (o := o) (by rw [getT_put (by simp only [size_put]; omega)]) ?_)))))
    · rw [getT_put (by simp only [size_put]; omega), getT_put_ne (by omega), hS0 _ (by omega)]
      exact hpp
    refine ops_cal hfl (R := fun e w' => e = .returned (.int .i64 u.length) ∧ w = w') ?_ ?_
    · have hc := hcl w (· < X.B) b (o + off) u hT1
      refine Eq.mp (congrArg (fun z => Calls X.P X.I.tagsLen z w _) ?_) hc
      simp (disch := first | omega | (simp only [size_put]; omega)) [getT_put]
    rintro e w' ⟨rfl, rfl⟩
    refine ⟨_, rfl, opsw_none rfl (opw_convert hI hU (n := (u.length : Int)) (by simp (disch := first | omega | (simp only [size_put]; omega)) [eval_tmp, getT_put]) (opsw_none rfl (opw_arith (op := .add) (k := .u32) (m := 0) (n := (u.length : Int)) (r := (u.length : Int)) rfl ?_ (.inl ⟨rfl, ?_⟩) ?_)))⟩
    · rw [eval_tmp, getT_put (by simp only [size_put]; omega), IntWalk.u32_in _ (by simp only [most] at hk2; omega)]
    · rw [IntWalk.u32_in _ (by simp only [most] at hk2; omega)]
      simp
    refine ops_cal hAP.1 (R := fun e w' => ∃ dv', e = .returned dv' ∧ Own X.tU8 w' X.B dv' (xs ++ uvarint u.length) ∧ Below X.B w w' ∧ X.B ≤ w'.heap.size) ?_ ?_
    · have hc := hAP.2 w X.B (getT a 1) xs hi.own hi.heap (by simp at hlen ⊢; omega) trivial
      refine Eq.mp (congrArg (fun z => Calls X.P X.I.aUvar z w _) ?_) hc
      simp (disch := first | omega | (simp only [size_put]; omega)) [getT_put, getT_put_ne, hS0 1]
    rintro e w' ⟨dv', rfl, ho, hbl, hh⟩
    refine ⟨dv', rfl, ops_asg (ops_nil ?_)⟩
    generalize hg1 : ((((((((a0.put (some (t + 1)) (getT a0 1)).put (some (t + 2)) (getT (a0.put (some (t + 1)) (getT a0 1)) p)).put (some (t + 3)) (.pointer (some ⟨b, o, none⟩))).put (some (t + 4)) (.pointer (some ⟨b, o + off, none⟩))).put (some (t + 5)) (.int .i64 u.length)).put (some (t + 6)) (.int .u32 (IntKind.u32.wrap (u.length : Int)))).put (some (t + 7)) (.int .u32 u.length)).put (some (t + 8)) dv') = a1
    have hs1 : a1.tmps.size = X.N := by rw [← hg1]; simp [size_put, hs0]
    have hd1 : a1.defers = a.defers := by rw [← hg1]; simp [defers_put, hd0]
    have hv1 : getT a1 (t + 8) = dv' := by rw [← hg1]; simp (disch := first | omega | (simp only [size_put]; omega)) [getT_put]
    have hS1 : ∀ s, s < t → getT a1 s = getT a s := by
      intro s hs
      rw [← hg1]
      simp (disch := omega) [getT_put_ne]
      exact hS0 s (by omega)
    clear hg1
    have hT2 := hTags_below hT hb (hi.below.trans hbl)
    refine SC.wp_reg (ops_mv (ops_nilc (ad := ⟨b, o, none⟩) ?_ (ops_fa hS (b := b) (o := o) (by rw [getT_put (by simp only [size_put]; omega)]) (ops_mv ?_))))
    · rw [getT_put (by simp only [size_put]; omega), getT_put_ne (by omega), hS1 _ (by omega)]
      exact hpp
    refine ops_cal hfe (R := fun e w2 => ∃ dv2, e = .returned dv2 ∧ Own X.tU8 w2 X.B dv2 (xs ++ uvarint u.length ++ u.flatMap wTag) ∧ Below X.B w' w2 ∧ X.B ≤ w2.heap.size) ?_ ?_
    · have hc := hce w' X.B b (o + off) u dv' (xs ++ uvarint u.length) hT2 hb ho hh (by simp at hlen ⊢; omega)
      refine Eq.mp (congrArg (fun z => Calls X.P X.I.tagsEach z w' _) ?_) hc
      simp (disch := first | omega | (simp only [size_put]; omega)) [getT_put, getT_put_ne, hv1]
    rintro e w2 ⟨dv2, rfl, ho2, hbl2, hh2⟩
    refine ⟨dv2, rfl, ops_asg (ops_nil ?_)⟩
    refine hQ _ _ (hi.step hX (lo := lo) (t := t) (by simp [size_put, hs1, hsz]) (by simp [defers_put, hd1]) ?_ hlv hlf ?_ (hbl.trans hbl2) hh2) ?_ trivial
    · intro s hs1 hs2
      simp (disch := first | omega | (simp only [size_put]; omega)) [getT_put_ne]
      exact hS1 s (by omega)
    · simp (disch := first | omega | (simp only [size_put]; omega)) [getT_put]
      rw [← List.append_assoc]
      exact ho2
    · intro s hs1 hs2
      simp (disch := first | omega | (simp only [size_put]; omega)) [getT_put_ne]
      exact hS1 s (by omega)
  · rw [if_neg hf]
    have hout : wTags X.flex u = [] := by simp [wTags, hf]
    rw [hout] at hlen hQ
    refine SC.wp_skip (hQ _ _ ?_ ?_ trivial)
    · rw [List.append_nil]
      refine hi.step hX (lo := lo) (t := t) (by omega) hd0 ?_ hlv hlf ?_ (Below.refl _ _) hi.heap
      · intro s hs1 hs2
        exact hS0 s (by omega)
      · rw [hS0 1 (by omega)]
        exact hi.own
    · intro s hs1 hs2
      exact hS0 s (by omega)

end
end Go.Proofs.Ytioodpjcpadkoaa.K
