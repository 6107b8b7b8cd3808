/- What the reference's values in memory say. No condition. -/
import Derived.Test.YtioodpjcpadkoaaS5
import Derived.Laws.CopyOwn
namespace Go.Proofs.Ytioodpjcpadkoaa.K
open Go Go.RowKit Go.Proofs.Ytioodpjcpadkoaa.T
set_option linter.unusedSimpArgs false
set_option linter.unusedVariables false
set_option maxHeartbeats 1000000

/-- the reference's number of a kind -/
def kindOf : Ty → Int
  | .prim .bool => 0
  | .prim .i8 => 1
  | .prim .i16 => 2
  | .prim .i32 => 3
  | .prim .i64 => 4
  | .prim .u16 => 5
  | .prim .uuid => 7
  | .prim .str => 8
  | .prim .bytes => 9
  | .struct _ _ _ _ _ => 10
  | .list _ _ _ _ => 11

def Fs.len : Fs → Nat
  | .nil => 0
  | .cons _ _ r => Fs.len r + 1
def Fs.drop : Nat → Fs → Fs
  | 0, fs => fs
  | _ + 1, .nil => .nil
  | n + 1, .cons _ _ r => Fs.drop n r

def isList : Ty → Bool
  | .list _ _ _ _ => true
  | _ => false
/-- of a list: the kind of its elements -/
def ofOK (of_ : Int) : Ty → Prop
  | .list _ _ _ of => of_ = kindOf of ∧ isList of = false
  | _ => True

mutual
/-- the fields below a field -/
def SubV (w : World) (F : Nat → Prop) : Ty → Value → Prop
  | .prim _, _ => True
  | .struct _ _ _ _ fs, v => ∃ base cap, v = .slice base (Fs.len fs) cap ∧ (Fs.len fs = 0 ∨ ∃ b o, base = some ⟨b, o, none⟩ ∧ F b ∧ FsAt w F fs b o)
  | .list _ _ _ of, v => SubV w F of v
/-- the fields at a place of memory -/
def FsAt (w : World) (F : Nat → Prop) : Fs → Nat → Nat → Prop
  | .nil, _, _ => True
  | .cons h ty r, b, o => (∃ of_ sub, rangeV w b o 8 = some [.int .i64 (kindOf ty), .int .i64 h.from_, .int .i64 h.to, .int .i64 h.null, .int .i64 (-1), .int .i64 h.dflt, .int .i64 of_, sub] ∧ sub.oneCell' = true ∧ ofOK of_ ty ∧ SubV w F ty sub) ∧ FsAt w F r b (o + 8)
end
/-- a list of fields -/
def FsV (w : World) (F : Nat → Prop) (fs : Fs) (v : Value) : Prop :=
  ∃ base cap, v = .slice base (Fs.len fs) cap ∧ (Fs.len fs = 0 ∨ ∃ b o, base = some ⟨b, o, none⟩ ∧ F b ∧ FsAt w F fs b o)

/-- unknown tags in memory -/
def UTagsAt (w : World) (F : Nat → Prop) (base : Option Addr) (u : List (Nat × Bytes)) : Prop :=
  u = [] ∨ ∃ b o, base = some ⟨b, o, none⟩ ∧ F b ∧ ∀ i x, u[i]? = some x → x.1 < 4294967296 ∧ ∃ vb vc, rangeV w b (o + i * 2) 2 = some [.int .u32 (x.1 : Int), .slice vb x.2.length vc] ∧ BytesAt w F vb x.2 ∧ x.2.length ≤ vc

/-- a tree of the reference; 'G': the unknown tags that are let in -/
inductive TV (G : List (Nat × Bytes) → Prop) (w : World) (F : Nat → Prop) : Tree → Value → Prop where
  | mk (n : Int) (s : Bytes) (null : Bool) (l : List Tree) (u : List (Nat × Bytes)) (sb lb ub : Option Addr) (sc lc uc : Nat) (b o : Nat) (cs : Nat → List Value)
      (hs : BytesAt w F sb s) (hsc : s.length ≤ sc) (hlc : l.length ≤ lc) (huc : u.length ≤ uc)
      (hl : l ≠ [] → lb = some ⟨b, o, none⟩ ∧ F b)
      (hr : ∀ i, i < l.length → rangeV w b (o + i * 5) 5 = some (cs i))
      (ht : ∀ i x, l[i]? = some x → TV G w F x (.agg (cs i).toArray))
      (hG : G u) (hu : UTagsAt w F ub u) :
      TV G w F (.mk n s null l u) (treV n (.slice sb s.length sc) null (.slice lb l.length lc) (.slice ub u.length uc))

def zeroTV : Value := treV 0 (.slice none 0 0) false (.slice none 0 0) (.slice none 0 0)

section
variable {G : List (Nat × Bytes) → Prop} {P : Program} {X : STy} {f : FuncId} {fn : Func}

theorem bytesAt_mono {w0 w : World} {F F' : Nat → Prop} {base : Option Addr} {bs : Bytes} (h : BytesAt w0 F base bs) (hF : ∀ k, F k → F' k) (hw : ∀ k, F k → w.heap[k]? = w0.heap[k]?) : BytesAt w F' base bs := by
  rcases h with h | ⟨b, o, h1, h2, h3⟩
  · exact .inl h
  · exact .inr ⟨b, o, h1, hF _ h2, fun j u hu => by rw [World.cell?_of_block (hw b h2)]; exact h3 j u hu⟩

theorem rangeV_mono {w0 w : World} {b : Nat} (hw : w.heap[b]? = w0.heap[b]?) : ∀ (n o : Nat), rangeV w b o n = rangeV w0 b o n
  | 0, _ => rfl
  | n + 1, o => by
    unfold rangeV
    rw [World.cell?_of_block (a := ⟨b, o, none⟩) hw, rangeV_mono hw n (o + 1)]

theorem tagsAt_mono {w0 w : World} {F F' : Nat → Prop} {base : Option Addr} {u : List (Nat × Bytes)} (h : UTagsAt w0 F base u) (hF : ∀ k, F k → F' k) (hw : ∀ k, F k → w.heap[k]? = w0.heap[k]?) : UTagsAt w F' base u := by
  rcases h with h | ⟨b, o, h1, h2, h3⟩
  · exact .inl h
  · refine .inr ⟨b, o, h1, hF _ h2, fun i x hx => ?_⟩
    obtain ⟨q0, vb, vc, q1, q2, q3⟩ := h3 i x hx
    exact ⟨q0, vb, vc, by rw [rangeV_mono (hw b h2)]; exact q1, bytesAt_mono q2 hF hw, q3⟩

theorem TV.mono {w0 w : World} {F F' : Nat → Prop} (hF : ∀ k, F k → F' k) (hw : ∀ k, F k → w.heap[k]? = w0.heap[k]?) {t : Tree} {v : Value} (h : TV G w0 F t v) : TV G w F' t v := by
  induction h with
  | mk n s null l u sb lb ub sc lc uc b o cs hs hsc hlc huc hl hr ht hG hu ih =>
    refine .mk n s null l u sb lb ub sc lc uc b o cs (bytesAt_mono hs hF hw) hsc hlc huc (fun h => ⟨(hl h).1, hF _ (hl h).2⟩) (fun i hi => ?_) ih hG (tagsAt_mono hu hF hw)
    have hne : l ≠ [] := by intro e; subst e; simp at hi
    rw [rangeV_mono (hw b (hl hne).2)]
    exact hr i hi

mutual
theorem SubV.mono {w0 w : World} {F F' : Nat → Prop} (hF : ∀ k, F k → F' k) (hw : ∀ k, F k → w.heap[k]? = w0.heap[k]?) : ∀ (ty : Ty) (v : Value), SubV w0 F ty v → SubV w F' ty v
  | .prim _, _, _ => by simp [SubV]
  | .struct _ _ _ _ fs, v, h => by
    simp only [SubV] at h ⊢
    obtain ⟨base, cap, h1, h2⟩ := h
    exact ⟨base, cap, h1, h2.imp id fun ⟨b, o, q1, q2, q3⟩ => ⟨b, o, q1, hF _ q2, FsAt.mono hF hw fs b o q2 q3⟩⟩
  | .list _ _ _ of, v, h => by
    simp only [SubV] at h ⊢
    exact SubV.mono hF hw of v h
theorem FsAt.mono {w0 w : World} {F F' : Nat → Prop} (hF : ∀ k, F k → F' k) (hw : ∀ k, F k → w.heap[k]? = w0.heap[k]?) : ∀ (fs : Fs) (b o : Nat), F b → FsAt w0 F fs b o → FsAt w F' fs b o
  | .nil, _, _, _, _ => by simp [FsAt]
  | .cons h ty r, b, o, hb, hh => by
    simp only [FsAt] at hh ⊢
    obtain ⟨⟨of_, sub, h1, h2, h3, h4⟩, h5⟩ := hh
    exact ⟨⟨of_, sub, by rw [rangeV_mono (hw b hb)]; exact h1, h2, h3, SubV.mono hF hw ty sub h4⟩, FsAt.mono hF hw r b (o + 8) hb h5⟩
end
theorem FsV.mono {w0 w : World} {F F' : Nat → Prop} (hF : ∀ k, F k → F' k) (hw : ∀ k, F k → w.heap[k]? = w0.heap[k]?) {fs : Fs} {v : Value} (h : FsV w0 F fs v) : FsV w F' fs v := by
  obtain ⟨base, cap, h1, h2⟩ := h
  exact ⟨base, cap, h1, h2.imp id fun ⟨b, o, q1, q2, q3⟩ => ⟨b, o, q1, hF _ q2, FsAt.mono hF hw fs b o q2 q3⟩⟩

/-- what stands below the heap's end stays -/
theorem TV.down {w0 w : World} {B : Nat} (hb : Below B w0 w) (hB : B ≤ w.heap.size) {t : Tree} {v : Value} (h : TV G w0 (· < B) t v) : TV G w (· < w.heap.size) t v :=
  h.mono (fun k hk => Nat.lt_of_lt_of_le hk hB) (fun k hk => hb.block k hk)
theorem FsV.down {w0 w : World} {B : Nat} (hb : Below B w0 w) (hB : B ≤ w.heap.size) {fs : Fs} {v : Value} (h : FsV w0 (· < B) fs v) : FsV w (· < w.heap.size) fs v :=
  h.mono (fun k hk => Nat.lt_of_lt_of_le hk hB) (fun k hk => hb.block k hk)

theorem TV.zero (h0 : G []) (w : World) (F : Nat → Prop) : TV G w F Tree.zero zeroTV :=
  .mk 0 [] false [] [] none none none 0 0 0 0 0 (fun _ => []) (.inl ⟨rfl, rfl⟩) (Nat.le_refl _) (Nat.le_refl _) (Nat.le_refl _) (fun h => absurd rfl h) (fun i hi => by simp at hi) (fun i x hx => by simp at hx) h0 (.inl rfl)

theorem opw_build {a : Act} {w : World} {K : Act → World → Prop} {d : Option Tmp} {g : Option (Nat × Bool)} {T : TypeId} {parts : Array (Nat × Operand)} {cs : Array Value} (hp : P.built T (parts.map fun x => (x.1, a.eval x.2)).toList = some cs)
    (h : K (a.put d (.agg cs)) w) : opw P ⟨d, .build T parts, g⟩ a w K := by
  refine opw_value (v := .agg cs) (by simp) (fun p hp2 => ?_) h
  have hr := run_build (P := P) w T (parts.map fun x => (x.1, a.eval x.2)) cs hp
  simp only [execOp, hp2]
  simp only [Sem.run_bind]
  rw [hr]
  rfl

/-- the tree behind a number in a tree's list -/
theorem at_ok (hX : stOK P X = true) (hz : P.built X.T [] = some #[.int .i64 0, .slice none 0 0, .bool false, .slice none 0 0, .slice none 0 0]) (hTa : arrB P X.T 5 = true)
    (hf : P.funcs[f]? = some fn) (hb : fn.body.map strip = some (sc_at X.T X.Ts X.I)) (hn : fn.ntmps = 16) (hr : fn.results = #[.cell 4 X.T]) (h0G : G [])
    (w : World) (t : Tree) (tv : Value) (i : Nat) (ht : TV G w (· < w.heap.size) t tv) :
    Calls P f #[tv, .int .i64 (i : Int)] w fun e w' => ∃ v, e = .returned v ∧ TV G w (· < w.heap.size) ((t.l.drop i).headD Tree.zero) v ∧ Below w.heap.size w w' := by
  have hst := st_facts hX
  refine fn_calls hf hb hn (by simp) fun a0 hs hd ha => ?_
  have h0 := ha 0 _ rfl
  have h1 := ha 1 _ rfl
  simp only [List.getElem_toArray, List.getElem_cons_zero, List.getElem_cons_succ] at h0 h1
  cases ht with
  | mk n s null l u sb lb ub sc lc uc b o cs hs1 hsc hlc huc hl hrr htt hG hu =>
  refine SC.wp_seq (SC.wp_reg (ops_box (B := w.heap.size) (w0 := w) (by rw [eval_tmp, h0]; rfl) (Nat.le_refl _) (Below.refl _ _) fun w1 q1 q2 q3 hc q5 => ?_))
  obtain ⟨hTa1, iT, zT, hiT, hzT, hzs⟩ := arr_of hTa
  refine opsw_none rfl (opw_alloc hiT hzT (ops_nil ?_))
  have hal := heap_alloc_new w1 (.cells zT.cells X.T)
  have hc2 : ∀ j, (w1.alloc (.cells zT.cells X.T)).cell? ⟨w.heap.size, j, none⟩ = #[Value.int .i64 n, .slice sb s.length sc, .bool null, .slice lb l.length lc, .slice ub u.length uc][j]? := fun j => by
    rw [World.cell?_of_block (a := ⟨w.heap.size, j, none⟩) (Below.heap_alloc w1 _ w.heap.size (by omega))]
    exact hc j
  have hbw : Below w.heap.size w (w1.alloc (.cells zT.cells X.T)) := q2.alloc (by omega) _
  have hsz2 : (w1.alloc (.cells zT.cells X.T)).heap.size = w.heap.size + 2 := by simp [q3]
  generalize w1.alloc (.cells zT.cells X.T) = w2 at *
  rw [q3] at hal ⊢
  clear hc q1 q2 q5
  have fin : ∀ (a : Act) (vs : List Value) (t' : Tree), a.tmps.size = 16 → a.defers = [] → getT a 4 = .pointer (some ⟨w.heap.size + 1, 0, none⟩) → vs.length = 5 → TV G w (· < w.heap.size) t' (.agg vs.toArray) → t' = (l.drop i).headD Tree.zero →
      bodyPost P fn (fun e w' => ∃ v, e = .returned v ∧ TV G w (· < w.heap.size) (((Tree.mk n s null l u).l.drop i).headD Tree.zero) v ∧ Below w.heap.size w w') .ret a (w2.setRow (w.heap.size + 1) vs.toArray) := by
    intro a vs t' p1 p2 p3 p4 p5 p6
    subst p6
    exact ret_cell hr (by simp [hst, p4]) p3 (setRow_heap w2 _ _ _ _ _ hal) p2 ⟨_, rfl, p5, below_setRow hbw (by omega) _⟩
  refine SC.wp_seq (SC.wp_seq (SC.wp_reg ?_))
  repeat (first | (apply ops_1; (focus (simp (disch := first | omega | (simp only [size_put]; omega)) [qv, qcall, vop, iop, eval_tmp, eval_const, put_none, getT_put, getT_put_ne, hst, hc2, h1]; try rfl))) | (apply ops_y; (focus rfl); (focus (first | omega | (simp only [size_put]; omega))); (focus (simp (disch := first | omega | (simp only [size_put]; omega)) [put_none, getT_put, getT_put_ne, hst, hc2, h1]; done)); (focus (simp (disch := first | omega | (simp only [size_put]; omega)) [qv, qcall, vop, iop, eval_tmp, eval_const, put_none, getT_put, getT_put_ne, hst, hc2, h1]; try rfl))) | (apply ops_n; (focus rfl); (focus (first | omega | (simp only [size_put]; omega))); (focus (first | (left; simp (disch := first | omega | (simp only [size_put]; omega)) [put_none, getT_put, getT_put_ne, hst, hc2, h1]; done) | (right; simp (disch := first | omega | (simp only [size_put]; omega)) [put_none, getT_put, getT_put_ne]; done)))))
  refine ops_nil (SC.wp_cond (t := decide ((i : Int) < (l.length : Int))) (by simp (disch := first | omega | (simp only [size_put]; omega)) [eval_tmp, eval_const, put_none, getT_put, getT_put_ne]) ?_)
  cases e1 : decide ((i : Int) < (l.length : Int))
  · rw [if_neg (by simp)]
    refine SC.wp_skip ?_
    simp only [Exit.then]
    have hi : l.length ≤ i := by simp at e1; omega
    refine SC.wp_seq (SC.wp_reg (opsw_none rfl (opw_build (cs := #[.int .i64 0, .slice none 0 0, .bool false, .slice none 0 0, .slice none 0 0]) (by simpa using hz) ?_)))
    refine opsw_none rfl (opw_store_agg (b := w.heap.size + 1) (cs := [.int .i64 0, .slice none 0 0, .bool false, .slice none 0 0, .slice none 0 0]) hTa1 ?_ ?_ hal (by simp [hzs]) (by simp [Value.oneCell']) (ops_nil (SC.wp_ret ?_)))
    · simp (disch := first | omega | (simp only [size_put]; omega)) [eval_tmp, eval_const, put_none, getT_put, getT_put_ne]
    · simp (disch := first | omega | (simp only [size_put]; omega)) [eval_tmp, eval_const, put_none, getT_put, getT_put_ne]
    refine fin _ _ Tree.zero (by simp [size_put, hs]) (by simp [defers_put, hd]) ?_ rfl (TV.zero h0G _ _) ?_
    · simp (disch := first | omega | (simp only [size_put]; omega)) [eval_tmp, eval_const, put_none, getT_put, getT_put_ne]
    · rw [List.drop_eq_nil_of_le hi]; rfl
  · rw [if_pos rfl]
    have hi : i < l.length := by simp at e1; omega
    have hne : l ≠ [] := by intro e; subst e; simp at hi
    obtain ⟨hlb, hbF⟩ := hl hne
    subst hlb
    have hri := hrr i hi
    rw [← rangeV_mono (w := w2) (hbw.block b hbF)] at hri
    obtain ⟨hl5, _⟩ := rangeV_get _ _ _ hri
    have hti := htt i _ (List.getElem?_eq_getElem hi)
    refine SC.wp_seq (SC.wp_reg ?_)
    have ei : (0 : Int) ≤ (i : Int) ∧ (i : Int) < (l.length : Int) := by omega
    repeat (first | (apply ops_1; (focus (simp (disch := first | omega | (simp only [size_put]; omega)) [qv, qcall, vop, iop, eval_tmp, eval_const, put_none, getT_put, getT_put_ne, hst, hc2, h1, ei, hri, hi]; try rfl))) | (apply ops_y; (focus rfl); (focus (first | omega | (simp only [size_put]; omega))); (focus (simp (disch := first | omega | (simp only [size_put]; omega)) [put_none, getT_put, getT_put_ne, hst, hc2, h1, ei, hri, hi]; done)); (focus (simp (disch := first | omega | (simp only [size_put]; omega)) [qv, qcall, vop, iop, eval_tmp, eval_const, put_none, getT_put, getT_put_ne, hst, hc2, h1, ei, hri, hi]; try rfl))) | (apply ops_n; (focus rfl); (focus (first | omega | (simp only [size_put]; omega))); (focus (first | (left; simp (disch := first | omega | (simp only [size_put]; omega)) [put_none, getT_put, getT_put_ne, hst, hc2, h1, ei, hri, hi]; done) | (right; simp (disch := first | omega | (simp only [size_put]; omega)) [put_none, getT_put, getT_put_ne]; done)))))
    refine opsw_none rfl (opw_store_agg (b := w.heap.size + 1) (cs := cs i) (by rw [hl5]; exact hTa1) ?_ ?_ hal (by rw [hzs, hl5]) ?_ (ops_nil (SC.wp_ret ?_)))
    · simp (disch := first | omega | (simp only [size_put]; omega)) [eval_tmp, eval_const, put_none, getT_put, getT_put_ne]
    · simp (disch := first | omega | (simp only [size_put]; omega)) [eval_tmp, eval_const, put_none, getT_put, getT_put_ne]
    · intro v hv
      have hti' := hti
      generalize cs i = ci at hv hti'
      generalize l[i] = ti at hti'
      cases hti'
      simp at hv
      rcases hv with rfl | rfl | rfl | rfl | rfl <;> rfl
    refine fin _ _ l[i] (by simp [size_put, hs]) (by simp [defers_put, hd]) ?_ hl5 hti ?_
    · simp (disch := first | omega | (simp only [size_put]; omega)) [eval_tmp, eval_const, put_none, getT_put, getT_put_ne]
    · rw [List.drop_eq_getElem_cons hi]; rfl
end
end Go.Proofs.Ytioodpjcpadkoaa.K
