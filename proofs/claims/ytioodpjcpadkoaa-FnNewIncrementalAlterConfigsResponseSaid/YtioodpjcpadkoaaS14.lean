/- The functions that make the reference's messages: by their fields. No condition. -/
import Derived.Test.YtioodpjcpadkoaaS13
import Derived.Great.FillDense
namespace Go.Proofs.Ytioodpjcpadkoaa.K
open Go Go.RowKit Go.Proofs.Ytioodpjcpadkoaa.T
set_option linter.unusedSimpArgs false
set_option linter.unusedVariables false
set_option maxHeartbeats 4000000

/-- the field's kind has fields below -/
def hasSub : Ty → Bool
  | .struct _ _ _ _ _ => true
  | .list _ _ _ of => hasSub of
  | .prim _ => false
def ofPart : Ty → List (Nat × Int)
  | .list _ _ _ of => [(6, kindOf of)]
  | _ => []
/-- a field's literal: numbers -/
def fldInts (h : Hd) (ty : Ty) : List (Nat × Int) :=
  (0, kindOf ty) :: (if h.from_ = 0 then [] else [(1, h.from_)]) ++ [(2, h.to), (3, h.null), (4, -1)] ++ (if h.dflt = 0 then [] else [(5, h.dflt)]) ++ ofPart ty
def fldParts (h : Hd) (ty : Ty) (sub : Option Nat) : List (Nat × Operand) :=
  (fldInts h ty).map (fun x => (x.1, .const (.int .i64 x.2))) ++ (match sub with | some t => [(7, .tmp t)] | none => [])

/-- the operations that make the fields, from slot t on; and the fields' slots -/
def bOps (F : Nat) : Fs → List Nat → Nat → List SOp
  | .nil, _, _ => []
  | .cons h ty r, subs, t =>
    if hasSub ty then cal t (subs.headD 0) [] :: ⟨some (t + 1), .build F (fldParts h ty (some t)).toArray, none⟩ :: bOps F r subs.tail (t + 2)
    else ⟨some t, .build F (fldParts h ty none).toArray, none⟩ :: bOps F r subs (t + 1)
def bSlots : Fs → Nat → List Nat
  | .nil, _ => []
  | .cons _ ty r, t => if hasSub ty then (t + 1) :: bSlots r (t + 2) else t :: bSlots r (t + 1)
def bEnd : Fs → Nat → Nat
  | .nil, t => t
  | .cons _ ty r, t => if hasSub ty then bEnd r (t + 2) else bEnd r (t + 1)
def bSlice (Fs_ : Nat) (fs : Fs) : SOp := ⟨some (bEnd fs 1), .buildSlice Fs_ (Fs.len fs) (((bSlots fs 1).zipIdx 0).map fun x => (x.2, .tmp x.1)).toArray, none⟩
/-- a part's function -/
def sc_bSub (F Fs_ : Nat) (fs : Fs) (subs : List Nat) : SC :=
  .seq (.reg [⟨some 0, .assign (.const (.slice none 0 0)), none⟩]) (.seq (.reg (bOps F fs subs 1 ++ [bSlice Fs_ fs, asg 0 (bEnd fs 1)])) .ret)
/-- a message's function -/
def sc_bTop (F Fs_ M : Nat) (fs : Fs) (flex : Int) (subs : List Nat) : SC :=
  .seq (.reg [⟨some 0, .alloc M, none⟩]) (.seq (.reg (bOps F fs subs 1 ++ [bSlice Fs_ fs, ⟨some (bEnd fs 1 + 1), .build M #[(1, .const (.int .i64 flex)), (0, .tmp (bEnd fs 1))], none⟩, ⟨none, .store M (.tmp 0) (.tmp (bEnd fs 1 + 1)), none⟩])) .ret)

def zeroF : List Value := [.int .i64 0, .int .i64 0, .int .i64 0, .int .i64 0, .int .i64 0, .int .i64 0, .int .i64 0, .slice none 0 0]
def fOK (P : Program) (F : Nat) : Bool :=
  match P.info? F, P.underlying F with
  | some it, some (.struct fields) =>
    match it.zero, fields.toList.mapM (fun f => (P.info? f.type).map fun i => (f.offset, i.size)) with
    | some (.agg ⟨[.int .i64 0, .int .i64 0, .int .i64 0, .int .i64 0, .int .i64 0, .int .i64 0, .int .i64 0, .slice none 0 0]⟩), some [(0, 1), (1, 1), (2, 1), (3, 1), (4, 1), (5, 1), (6, 1), (7, 1)] => true
    | _, _ => false
  | _, _ => false

/-- the cells of a literal -/
def setAll : List (Nat × Value) → List Value → List Value
  | [], cs => cs
  | (i, v) :: r, cs => setAll r (cs.set i v)

section
variable {P : Program} {X : STy} {f : FuncId} {fn : Func}

theorem fill8 : ∀ (parts : List (Nat × Value)) (cs : List Value), cs.length = 8 → (∀ x ∈ parts, x.1 < 8 ∧ x.2.cells = #[x.2]) →
    Instr.fill (fun x => (#[(0, 1), (1, 1), (2, 1), (3, 1), (4, 1), (5, 1), (6, 1), (7, 1)] : Array (Nat × Nat))[x]?) cs.toArray parts = some (setAll parts cs).toArray
  | [], cs, _, _ => by simp [Instr.fill, setAll]
  | (i, v) :: r, cs, hl, h => by
    obtain ⟨h1, h2⟩ := h (i, v) List.mem_cons_self
    have ih := fill8 r (cs.set i v) (by simpa using hl) (fun x hx => h x (List.mem_cons_of_mem _ hx))
    have hp : (#[(0, 1), (1, 1), (2, 1), (3, 1), (4, 1), (5, 1), (6, 1), (7, 1)] : Array (Nat × Nat))[i]? = some (i, 1) := by
      have : i = 0 ∨ i = 1 ∨ i = 2 ∨ i = 3 ∨ i = 4 ∨ i = 5 ∨ i = 6 ∨ i = 7 := by simp only at h1; omega
      rcases this with rfl | rfl | rfl | rfl | rfl | rfl | rfl | rfl <;> rfl
    simp only at h1 h2
    unfold Instr.fill
    rw [hp]
    simp only [h2, setAll]
    have hc : ¬ (i + 1 > cs.length) := by omega
    simp [hl, show ¬ (8 < i + 1) by omega]
    simpa using ih

theorem built8 (h : fOK P X.F = true) (parts : List (Nat × Value)) (hp : ∀ x ∈ parts, x.1 < 8 ∧ x.2.cells = #[x.2]) : P.built X.F parts = some (setAll parts zeroF).toArray := by
  unfold fOK at h
  split at h <;> try (simp at h; done)
  rename_i it fields hi hu
  split at h <;> try (simp at h; done)
  rename_i hz hpl
  unfold Program.built
  simp only [hi, hu, hz, hpl]
  exact fill8 parts zeroF rfl hp

def ofOK2 (of_ : Int) : Ty → Prop
  | .list _ _ _ of => of_ = kindOf of
  | _ => True
theorem fldInts_set (h : Hd) (ty : Ty) : ∃ of_, ofOK2 of_ ty ∧ setAll ((fldInts h ty).map fun x => (x.1, Value.int .i64 x.2)) zeroF = [.int .i64 (kindOf ty), .int .i64 h.from_, .int .i64 h.to, .int .i64 h.null, .int .i64 (-1), .int .i64 h.dflt, .int .i64 of_, .slice none 0 0] := by
  have e : ∀ (l : List (Nat × Int)) (of_ : Int), ofPart ty = l → (l = [] ∧ of_ = 0 ∨ l = [(6, of_)]) → setAll ((fldInts h ty).map fun x => (x.1, Value.int .i64 x.2)) zeroF = [.int .i64 (kindOf ty), .int .i64 h.from_, .int .i64 h.to, .int .i64 h.null, .int .i64 (-1), .int .i64 h.dflt, .int .i64 of_, .slice none 0 0] := by
    intro l of_ hl ho
    unfold fldInts
    rw [hl]
    rcases ho with ⟨rfl, rfl⟩ | rfl <;> by_cases e1 : h.from_ = 0 <;> by_cases e2 : h.dflt = 0 <;> simp [e1, e2, setAll, zeroF]
  cases ty with
  | prim k => exact ⟨0, trivial, e [] 0 rfl (.inl ⟨rfl, rfl⟩)⟩
  | struct _ _ _ _ _ => exact ⟨0, trivial, e [] 0 rfl (.inl ⟨rfl, rfl⟩)⟩
  | list _ _ _ of => exact ⟨kindOf of, rfl, e [(6, kindOf of)] _ rfl (.inr rfl)⟩

/-- the functions of the parts below do their work -/
def SubFns (P : Program) : Fs → List Nat → Prop
  | .nil, _ => True
  | .cons _ ty r, subs => if hasSub ty then
      (FnOK P (subs.headD 0) ∧ ∀ w : World, Calls P (subs.headD 0) #[] w fun e w' => ∃ v, e = .returned v ∧ v.oneCell' = true ∧ SubV w' (fun k => w.heap.size ≤ k ∧ k < w'.heap.size) ty v ∧ Below w.heap.size w w') ∧ SubFns P r subs.tail
    else SubFns P r subs

/-- no list of lists -/
def flatTy : Ty → Bool
  | .list _ _ _ of => !isList of
  | _ => true
def flatFs : Fs → Bool
  | .nil => true
  | .cons _ ty r => flatTy ty && flatFs r

/-- the fields' rows of cells -/
def FsRows (w : World) (F : Nat → Prop) : Fs → List (List Value) → Prop
  | .nil, rows => rows = []
  | .cons h ty r, rows => ∃ of_ sub rest, rows = [.int .i64 (kindOf ty), .int .i64 h.from_, .int .i64 h.to, .int .i64 h.null, .int .i64 (-1), .int .i64 h.dflt, .int .i64 of_, sub] :: rest ∧ sub.oneCell' = true ∧ ofOK of_ ty ∧ SubV w F ty sub ∧ FsRows w F r rest

theorem FsRows.mono {w0 w : World} {F F' : Nat → Prop} (hF : ∀ k, F k → F' k) (hw : ∀ k, F k → w.heap[k]? = w0.heap[k]?) : ∀ (fs : Fs) (rows : List (List Value)), FsRows w0 F fs rows → FsRows w F' fs rows
  | .nil, _, h => h
  | .cons h ty r, rows, hh => by
    simp only [FsRows] at hh ⊢
    obtain ⟨of_, sub, rest, h1, h2, h3, h4, h5⟩ := hh
    exact ⟨of_, sub, rest, h1, h2, h3, SubV.mono hF hw ty sub h4, FsRows.mono hF hw r rest h5⟩

theorem fsAt_rows {w : World} {F : Nat → Prop} {b : Nat} : ∀ (fs : Fs) (rows : List (List Value)) (o : Nat), FsRows w F fs rows → (∀ i v, rows.flatten[i]? = some v → w.cell? ⟨b, o + i, none⟩ = some v) → FsAt w F fs b o
  | .nil, _, _, _, _ => by simp [FsAt]
  | .cons h ty r, rows, o, hh, hc => by
    simp only [FsRows] at hh
    obtain ⟨of_, sub, rest, rfl, h2, h3, h4, h5⟩ := hh
    simp only [FsAt]
    refine ⟨⟨of_, sub, ?_, h2, h3, h4⟩, fsAt_rows r rest (o + 8) h5 (fun i v hv => ?_)⟩
    · refine rangeV_of [.int .i64 (kindOf ty), .int .i64 h.from_, .int .i64 h.to, .int .i64 h.null, .int .i64 (-1), .int .i64 h.dflt, .int .i64 of_, sub] o (fun j v hv => hc j v ?_)
      rw [List.flatten_cons, List.getElem?_append_left (by have := (List.getElem?_eq_some_iff.1 hv).1; simpa using this)]
      exact hv
    · rw [show o + 8 + i = o + (i + 8) by omega]
      refine hc (i + 8) v ?_
      rw [List.flatten_cons, List.getElem?_append_right (by simp)]
      simpa using hv
theorem fsRows_len {w : World} {F : Nat → Prop} : ∀ (fs : Fs) (rows : List (List Value)), FsRows w F fs rows → rows.length = Fs.len fs ∧ ∀ r ∈ rows, r.length = 8
  | .nil, rows, h => by simp only [FsRows] at h; subst h; simp [Fs.len]
  | .cons h ty r, rows, hh => by
    simp only [FsRows] at hh
    obtain ⟨of_, sub, rest, rfl, h2, h3, h4, h5⟩ := hh
    obtain ⟨q1, q2⟩ := fsRows_len r rest h5
    refine ⟨by simp [Fs.len, q1], fun x hx => ?_⟩
    rcases List.mem_cons.1 hx with rfl | hx
    · rfl
    · exact q2 x hx

theorem ofOK_of {of_ : Int} {ty : Ty} (hfl : flatTy ty = true) (h : ofOK2 of_ ty) : ofOK of_ ty := by
  cases ty with
  | list _ _ _ of =>
    simp only [flatTy, Bool.not_eq_true'] at hfl
    exact ⟨h, hfl⟩
  | prim k => exact trivial
  | struct _ _ _ _ _ => exact trivial

theorem fldInts_lt (h : Hd) (ty : Ty) : ∀ x ∈ fldInts h ty, x.1 < 7 := by
  intro x hx
  have a1 : ∀ (c : Prop) [Decidable c] (k : Nat) (v : Int), x ∈ (if c then [] else [(k, v)]) → x.1 = k := by
    intro c _ k v hx
    split at hx
    · simp at hx
    · simp at hx; rw [hx]
  have a2 : x ∈ ofPart ty → x.1 = 6 := by
    intro hx
    cases ty <;> simp [ofPart] at hx
    rw [hx]
  simp only [fldInts, List.mem_append, List.mem_cons, List.not_mem_nil, or_false] at hx
  rcases hx with (((hx | hx) | (hx | hx | hx)) | hx) | hx
  · rw [hx]; simp
  · have := a1 _ _ _ hx; omega
  · rw [hx]; simp
  · rw [hx]; simp
  · rw [hx]; simp
  · have := a1 _ _ _ hx; omega
  · have := a2 hx; omega

theorem setAll_append : ∀ (l l' : List (Nat × Value)) (cs : List Value), setAll (l ++ l') cs = setAll l' (setAll l cs)
  | [], _, _ => rfl
  | (i, v) :: l, l', cs => by simp only [List.cons_append, setAll, setAll_append l l']

theorem bEnd_ge : ∀ (fs : Fs) (t : Nat), t ≤ bEnd fs t
  | .nil, t => Nat.le_refl _
  | .cons _ ty r, t => by
    simp only [bEnd]
    split
    · have := bEnd_ge r (t + 2); omega
    · have := bEnd_ge r (t + 1); omega

theorem subV_none {w : World} {F : Nat → Prop} : ∀ (ty : Ty) (v : Value), hasSub ty = false → SubV w F ty v
  | .prim _, _, _ => by simp [SubV]
  | .struct _ _ _ _ _, _, h => by simp [hasSub] at h
  | .list _ _ _ of, v, h => by
    simp only [hasSub] at h
    simp only [SubV]
    exact subV_none of v h

theorem cells_one {v : Value} (h : v.oneCell' = true) : v.cells = #[v] := cells_oneCell h

/-- the operations make the fields -/
theorem bOps_ok (hX : fOK P X.F = true) : ∀ (fs : Fs) (subs : List Nat) (t : Nat) (all r : List SOp) (K : Act → World → Prop) (a : Act) (w : World), flatFs fs = true → SubFns P fs subs → bEnd fs t ≤ a.tmps.size →
    (∀ (a' : Act) (w' : World) (rows : List (List Value)), a'.tmps.size = a.tmps.size → a'.defers = a.defers → (∀ s, s < t → getT a' s = getT a s) → FsRows w' (fun k => w.heap.size ≤ k ∧ k < w'.heap.size) fs rows → ((bSlots fs t).map (getT a')) = rows.map (fun r => Value.agg r.toArray) → Below w.heap.size w w' → opsw P all r K a' w') →
    opsw P all (bOps X.F fs subs t ++ r) K a w
  | .nil, subs, t, all, r, K, a, w, _, _, _, h => h a w [] rfl rfl (fun _ _ => rfl) rfl rfl (Below.refl _ _)
  | .cons hd ty rs, subs, t, all, r, K, a, w, hfl, hsf, hsz, h => by
    simp only [flatFs, Bool.and_eq_true] at hfl
    obtain ⟨of_, hof, hset⟩ := fldInts_set hd ty
    have hints : ∀ x ∈ (fldInts hd ty).map (fun x => (x.1, Value.int .i64 x.2)), x.1 < 8 ∧ x.2.cells = #[x.2] := by
      intro x hx
      obtain ⟨y, hy, rfl⟩ := List.mem_map.1 hx
      have := fldInts_lt hd ty y hy
      exact ⟨by simp only; omega, rfl⟩
    cases hs : hasSub ty
    · simp only [SubFns, hs, Bool.false_eq_true, if_false] at hsf
      simp only [bEnd, hs, Bool.false_eq_true, if_false] at hsz
      have hge := bEnd_ge rs (t + 1)
      simp only [bOps, bSlots, hs, Bool.false_eq_true, if_false, List.cons_append] at h ⊢
      refine opsw_none rfl (opw_build (cs := #[.int .i64 (kindOf ty), .int .i64 hd.from_, .int .i64 hd.to, .int .i64 hd.null, .int .i64 (-1), .int .i64 hd.dflt, .int .i64 of_, .slice none 0 0]) ?_ ?_)
      · have := built8 hX _ hints
        rw [hset] at this
        rw [← this]
        simp [fldParts]
        rfl
      refine bOps_ok hX rs subs (t + 1) all r K _ w hfl.2 hsf (by rw [size_put]; exact hsz) ?_
      intro a' w' rows q qd qs qr qm qb
      refine h a' w' ([.int .i64 (kindOf ty), .int .i64 hd.from_, .int .i64 hd.to, .int .i64 hd.null, .int .i64 (-1), .int .i64 hd.dflt, .int .i64 of_, .slice none 0 0] :: rows) (by rw [q, size_put]) (by rw [qd, defers_put]) ?_ ?_ ?_ qb
      · intro s hs
        rw [qs s (by omega), getT_put_ne (by omega)]
      · simp only [FsRows]
        exact ⟨of_, _, rows, rfl, rfl, ofOK_of hfl.1 hof, subV_none ty _ hs, qr⟩
      · simp only [List.map_cons]
        rw [qm, qs t (by omega), getT_put (by omega)]
    · simp only [SubFns, hs, if_true] at hsf
      obtain ⟨⟨oF, cF⟩, hsf⟩ := hsf
      simp only [bEnd, hs, if_true] at hsz
      have hge := bEnd_ge rs (t + 2)
      simp only [bOps, bSlots, hs, if_true, List.cons_append] at h ⊢
      refine ops_cal oF (R := fun e w' => ∃ v, e = .returned v ∧ v.oneCell' = true ∧ SubV w' (fun k => w.heap.size ≤ k ∧ k < w'.heap.size) ty v ∧ Below w.heap.size w w') (cF w) ?_
      rintro e w1 ⟨v, rfl, hv1, hsv, hb1⟩
      refine ⟨v, rfl, ?_⟩
      have hs1 : w.heap.size ≤ w1.heap.size := hb1.size
      refine opsw_none rfl (opw_build (cs := #[.int .i64 (kindOf ty), .int .i64 hd.from_, .int .i64 hd.to, .int .i64 hd.null, .int .i64 (-1), .int .i64 hd.dflt, .int .i64 of_, v]) ?_ ?_)
      · have := built8 hX ((fldInts hd ty).map (fun x => (x.1, Value.int .i64 x.2)) ++ [(7, v)]) (by
          intro x hx
          rcases List.mem_append.1 hx with hx | hx
          · exact hints x hx
          · simp at hx
            subst hx
            exact ⟨by simp, cells_one hv1⟩)
        rw [setAll_append, hset] at this
        simp only [setAll, List.set_cons_succ, List.set_cons_zero] at this
        rw [← this]
        have ht : getT (a.put (some t) v) t = v := getT_put (by omega)
        simp [fldParts, eval_tmp, ht]
        rfl
      refine bOps_ok hX rs subs.tail (t + 2) all r K _ w1 hfl.2 hsf (by rw [size_put, size_put]; exact hsz) ?_
      intro a' w' rows q qd qs qr qm qb
      have hs2 : w1.heap.size ≤ w'.heap.size := qb.size
      refine h a' w' ([.int .i64 (kindOf ty), .int .i64 hd.from_, .int .i64 hd.to, .int .i64 hd.null, .int .i64 (-1), .int .i64 hd.dflt, .int .i64 of_, v] :: rows) (by rw [q, size_put, size_put]) (by rw [qd, defers_put, defers_put]) ?_ ?_ ?_ (hb1.trans (qb.mono hs1))
      · intro s hs
        rw [qs s (by omega), getT_put_ne (by omega), getT_put_ne (by omega)]
      · simp only [FsRows]
        refine ⟨of_, v, rows, rfl, hv1, ofOK_of hfl.1 hof, SubV.mono (fun k hk => ?_) (fun k hk => qb.block k hk.2) ty v hsv, FsRows.mono (w0 := w') (fun k hk => ?_) (fun _ _ => rfl) rs rows qr⟩
        · omega
        · omega
      · simp only [List.map_cons]
        rw [qm, qs (t + 1) (by omega), getT_put (by rw [size_put]; omega)]

/-- the fields' slice -/
theorem opw_buildFs (hX : fOK P X.F = true) (hS : P.underlying X.Fs = some (.slice X.F)) (hF8 : ∃ i, P.info? X.F = some i ∧ i.size = 8) {a : Act} {w : World} {K : Act → World → Prop} {d : Option Tmp} {g : Option (Nat × Bool)} {n : Nat} {slots : List Nat} {rows : List (List Value)} (hn : n = rows.length) (hn0 : 0 < n) (hn1 : n ≤ 1000) (hm : slots.map (getT a) = rows.map (fun r => Value.agg r.toArray)) (hr : ∀ r ∈ rows, r.length = 8)
    (h : K (a.put d (.slice (some ⟨w.heap.size, 0, none⟩) n n)) (w.alloc (.cells rows.flatten.toArray X.F))) : opw P ⟨d, .buildSlice X.Fs n (((slots.zipIdx 0).map fun x => (x.2, Operand.tmp x.1)).toArray), g⟩ a w K := by
  obtain ⟨i, hi, hs8⟩ := hF8
  have hz : ∃ z, i.zero = some z := by
    unfold fOK at hX
    rw [hi] at hX
    split at hX <;> try (simp at hX; done)
    rename_i it fields h1 h2
    split at hX <;> try (simp at hX; done)
    rename_i hz _
    cases h1
    exact ⟨_, hz⟩
  obtain ⟨z, hz⟩ := hz
  have hparts : ((((slots.zipIdx 0).map fun x => (x.2, Operand.tmp x.1)).toArray).map fun x => (x.1, a.eval x.2)).toList = (((rows.map fun r => Value.agg r.toArray).zipIdx 0).map fun x => (x.2, x.1)) := by
    rw [← hm, List.zipIdx_map, List.map_map]
    simp [eval_tmp, Function.comp_def]
  have hfill := Go.Great.fill_whole (s := 8) (by decide) (rows.map fun r => Value.agg r.toArray) ((Array.range (n * i.size)).map (z.cells[· % z.cells.size]!)) (by
    intro v hv
    obtain ⟨r, hr', rfl⟩ := List.mem_map.1 hv
    simpa [Value.cells] using hr r hr') (by rw [hs8]; simp [hn])
  have hfl : (rows.map fun r => Value.agg r.toArray).flatMap (fun v => v.cells.toList) = rows.flatten := by
    rw [List.flatMap_map]
    simp [Value.cells, List.flatMap_def]
  rw [hfl] at hfill
  refine opw_value (v := .slice (some ⟨w.heap.size, 0, none⟩) n n) (w' := w.alloc (.cells rows.flatten.toArray X.F)) (by simp) (fun p hp => ?_) h
  have hrun := run_buildSlice (P := P) w X.Fs X.F n ((((slots.zipIdx 0).map fun x => (x.2, Operand.tmp x.1)).toArray).map fun x => (x.1, a.eval x.2)) rows.flatten.toArray i z hS hi hz (by rw [hs8]; omega) (by rw [hs8]; omega) (by rw [hparts, hs8] at *; exact hfill)
  simp only [execOp, hp]
  simp only [Sem.run_bind]
  rw [hrun]
  rfl
end
end Go.Proofs.Ytioodpjcpadkoaa.K
