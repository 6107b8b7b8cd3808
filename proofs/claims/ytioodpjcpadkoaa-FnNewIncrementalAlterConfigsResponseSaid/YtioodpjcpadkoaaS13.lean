/- The reference's function 'Default'. No condition. -/
import Derived.Test.YtioodpjcpadkoaaS12
import Derived.Great.BuildSlice
namespace Go.Proofs.Ytioodpjcpadkoaa.K
open Go Go.RowKit Go.Proofs.Ytioodpjcpadkoaa.T
set_option linter.unusedSimpArgs false
set_option linter.unusedVariables false
set_option maxHeartbeats 4000000

mutual
/-- what a new part's field says -/
def defT (h : Hd) : Ty → Tree
  | .struct _ _ _ _ fs => .mk h.dflt [] (decide (0 ≤ h.null)) (defL fs) []
  | .prim _ => .mk h.dflt [] (decide (0 ≤ h.null)) [] []
  | .list _ _ _ _ => .mk h.dflt [] (decide (0 ≤ h.null)) [] []
def defL : Fs → List Tree
  | .nil => []
  | .cons h ty r => defT h ty :: defL r
end
theorem defL_len : ∀ fs, (defL fs).length = Fs.len fs
  | .nil => by simp [defL, Fs.len]
  | .cons h ty r => by simp [defL, Fs.len, defL_len r]
theorem defL_at : ∀ (j : Nat) (fs : Fs) (h : Hd) (ty : Ty) (r : Fs), Fs.drop j fs = .cons h ty r → (defL fs)[j]? = some (defT h ty)
  | 0, fs, h, ty, r, e => by
    simp only [Fs.drop] at e
    subst e
    simp [defL]
  | j + 1, .nil, h, ty, r, e => by simp [Fs.drop] at e
  | j + 1, .cons h' ty' r', h, ty, r, e => by
    simp only [Fs.drop] at e
    simp only [defL, List.getElem?_cons_succ]
    exact defL_at j r' h ty r e

section
variable {G : List (Nat × Bytes) → Prop} {P : Program} {X : STy} {f : FuncId} {fn : Func}

def DefC (G : List (Nat × Bytes) → Prop) (P : Program) (f : FuncId) (fs : Fs) : Prop :=
  ∀ (w : World) (fv : Value), FsV w (· < w.heap.size) fs fv → Calls P f #[fv] w fun e w' => ∃ v, e = .returned v ∧ TV G w' (fun k => w.heap.size ≤ k ∧ k < w'.heap.size) (.mk 0 [] false (defL fs) []) v ∧ Below w.heap.size w w'
/-- of a struct only -/
def SubD (C : Fs → Prop) : Ty → Prop
  | .struct _ _ _ _ fs => C fs
  | _ => True
def SubsD (C : Fs → Prop) : Fs → Prop
  | .nil => True
  | .cons _ ty r => SubD C ty ∧ SubsD C r
theorem subsD_drop {C : Fs → Prop} : ∀ (i : Nat) (fs : Fs), SubsD C fs → SubsD C (Fs.drop i fs)
  | 0, fs, h => by simpa [Fs.drop] using h
  | i + 1, .nil, _ => by simp [Fs.drop, SubsD]
  | i + 1, .cons h ty r, hh => by
    simp only [SubsD] at hh
    simp only [Fs.drop]
    exact subsD_drop i r hh.2

/-- what is asked of the type of the trees -/
structure TreeT (P : Program) (X : STy) : Prop where
  info : ∃ i, P.info? X.T = some i ∧ i.zero = some zeroTV ∧ i.size = 5 ∧ i.bytes ≤ 1000
  row : P.underlying X.Ts = some (.slice X.T)
  agg : aggB P X.T 5 = true
  built : ∀ (n : Int) (b : Bool), P.built X.T [(0, .int .i64 n), (2, .bool b)] = some #[.int .i64 n, .slice none 0 0, .bool b, .slice none 0 0, .slice none 0 0]
  fld : ∃ fields fl, P.underlying X.T = some (.struct fields) ∧ fields.toList[3]? = some fl ∧ fl.offset = 3 ∧ (∃ i, P.info? fl.type = some i ∧ i.size = 1) ∧ oneB P fl.type = true

theorem rows_get (rows : List (List Value)) (k : Nat) (hk : ∀ r ∈ rows, r.length = k) (i : Nat) (r : List Value) (hi : rows[i]? = some r) (j : Nat) (v : Value) (hj : r[j]? = some v) : rows.flatten[i * k + j]? = some v := by
  induction rows generalizing i with
  | nil => simp at hi
  | cons x rows ih =>
    have hx : x.length = k := hk x List.mem_cons_self
    cases i with
    | zero =>
      simp at hi
      subst hi
      rw [List.flatten_cons, Nat.zero_mul, Nat.zero_add, List.getElem?_append_left (by rw [List.getElem?_eq_some_iff] at hj; obtain ⟨h, _⟩ := hj; exact h)]
      exact hj
    | succ i =>
      simp at hi
      rw [List.flatten_cons, List.getElem?_append_right (by rw [hx, Nat.succ_mul]; omega), hx, show (i + 1) * k + j - k = i * k + j by rw [Nat.succ_mul]; omega]
      exact ih (fun r hr => hk r (List.mem_cons_of_mem _ hr)) i hi

/-- a field's value, out of a tree's -/
theorem opw_field3 (hT : TreeT P X) {a : Act} {w : World} {K : Act → World → Prop} {d : Option Tmp} {g : Option (Nat × Bool)} {x : Operand} {n : Int} {s l u : Value} {b : Bool} (hx : a.eval x = treV n s b l u) (h1 : l.oneCell' = true) (h : K (a.put d l) w) :
    opw P ⟨d, .field X.T x 3, g⟩ a w K := by
  obtain ⟨fields, fl, hu, hfl, hoff, ⟨i, hi, hsz⟩, hone⟩ := hT.fld
  have hfl' : fields[3]? = some fl := by simpa using hfl
  refine opw_value (v := l) (by simp) (fun p hp => ?_) h
  have h0 := run_isAgg_one (P := P) (w := w) hone
  simp [execOp, hp, hx, Instr.field, run_underlying hu, hfl', treV, asAgg, part, sizeOf, typeInfo, hi, hsz, hoff, h0]

theorem opw_buildT (hT : TreeT P X) {a : Act} {w : World} {K : Act → World → Prop} {d : Option Tmp} {g : Option (Nat × Bool)} {x : Operand} {n : Int} {s l u : Value} {b : Bool} (hx : a.eval x = treV n s b l u) (h1 : s.oneCell' = true) (h2 : l.oneCell' = true) (h3 : u.oneCell' = true)
    (h : K (a.put d (.slice (some ⟨w.heap.size, 0, none⟩) 1 1)) (w.alloc (.cells #[.int .i64 n, s, .bool b, l, u] X.T))) : opw P ⟨d, .buildSlice X.Ts 1 #[(0, x)], g⟩ a w K := by
  obtain ⟨i, hi, hz, hsz, _⟩ := hT.info
  refine opw_value (v := .slice (some ⟨w.heap.size, 0, none⟩) 1 1) (w' := w.alloc (.cells #[.int .i64 n, s, .bool b, l, u] X.T)) (by simp) (fun p hp => ?_) h
  have hr := run_buildSlice (P := P) w X.Ts X.T 1 #[(0, treV n s b l u)] #[.int .i64 n, s, .bool b, l, u] i zeroTV hT.row hi hz (by rw [hsz]; decide) (by rw [hsz]; decide) (by
    rw [hsz]
    have hz5 : ∀ (zf : Nat → Value), (Array.range (1 * 5)).map zf = #[zf 0, zf 1, zf 2, zf 3, zf 4] := fun zf => Array.ext' (by simp [Array.toList_map, Array.toList_range, List.range, List.range.loop])
    rw [hz5]
    simp [Instr.fill, treV, Value.cells])
  simp only [execOp, hp]
  simp [hx, hr]

theorem run_append_src2 {P : Program} (w : World) (base : Nat) (t tx ty e : TypeId) (i : TypeInfo) (z : Value) (size bytes : Nat) (ht : P.underlying t = some (.slice e)) (hi : P.info? e = some i) (hz : i.zero = some z)
    (hsize : i.size = size) (hby : i.bytes = bytes) (hzs : z.cells.size = size) (hsz : 0 < size)
    (v : Value) (n : Nat) (xs : List Value) (hown : w.ownsRow base e size v n xs)
    (x : Value) (m : Nat) (news : List Value) (hs : Src P size tx x m news w)
    (h63 : n + m ≤ maxLen) (hbytes : (n + m) * bytes ≤ 140737488355328) (hbase : base ≤ w.heap.size) :
    ∃ v' w', (Builtin.append_ #[t, tx] ty #[v, x]).run P w = .ok v' w' ∧ w'.ownsRow base e size v' (n + m) (xs ++ news) ∧ w.grownBy w' v.ownBlock ∧ (v'.ownBlock = v.ownBlock ∨ ∃ b, v'.ownBlock = some b ∧ w.heap.size ≤ b) := by
  subst hsize
  subst hby
  have hl := hs.newsLen
  have h1 := hs.one
  have hsmall : n + m ≤ 9223372036854775807 := by simp only [maxLen] at h63; omega
  have hlen : (xs ++ news).length = (n + m) * i.size := by rw [List.length_append, hown.1, hl, Nat.add_mul]
  have grown : ∀ (old : Nat), old < n + m → ∀ (row : Option Nat),
      (w.drew.alloc (.cells ((xs ++ news).toArray ++ Builtin.zeroCells z.cells (grownCap w (n + m) old e - (n + m))) e)).ownsRow base e i.size
        (.slice (some ⟨w.heap.size, 0, none⟩) (n + m) (grownCap w (n + m) old e)) (n + m) (xs ++ news) ∧
      w.grownBy (w.drew.alloc (.cells ((xs ++ news).toArray ++ Builtin.zeroCells z.cells (grownCap w (n + m) old e - (n + m))) e)) row := by
    intro old ho row
    have hge := grownCap_ge w (n + m) old e
    have hcm : grownCap w (n + m) old e ≤ maxLen := grownCap_le_maxLen w (n + m) old e h63
    refine ⟨⟨hlen, .inr ⟨w.heap.size, _, _, rfl, hbase, heap_alloc_new w.drew _, hge, hcm, ?_, ?_⟩⟩, ⟨rfl, rfl, rfl, by simp, fun k hk _ => Below.heap_alloc w.drew _ k hk⟩⟩
    · rw [Array.size_append, List.size_toArray, hlen, size_zeroCells, hzs, ← Nat.add_mul]
      congr 1
      omega
    · rw [Array.toList_append, ← hlen]
      exact List.take_left
  rcases hown.2 with ⟨rfl, rfl⟩ | ⟨g, cap, cur, rfl, hbg, hg, hnc, hcm, hcs, htake⟩
  · have hx : xs = [] := List.eq_nil_of_length_eq_zero (by simpa using hown.1)
    subst hx
    by_cases hm : m = 0
    · subst hm
      have hn : news = [] := List.eq_nil_of_length_eq_zero (by simpa using hl)
      subst hn
      refine ⟨.slice none 0 0, w, ?_, World.ownsRow_nil w base e i.size, ⟨rfl, rfl, rfl, Nat.le_refl _, fun _ _ _ => rfl⟩, .inl rfl⟩
      rcases hs.kind with ⟨e', hk⟩ | hk <;> simp [Builtin.append_, run_underlying ht, run_underlying hk, sizeOf, typeInfo, hi, hs.len, hs.cells]
    · have hr := run_append_grow_src (P := P) w t tx ty e i z ht hi hz none 0 0 [] (run_firstCells_none w.drew i.size 0 0 0) x m news hs (by omega) (by omega) (growslice_fits (by omega) (by simpa using hbytes))
      have hgr := grown 0 (by omega) (Value.ownBlock (.slice none 0 0))
      simp only [Nat.zero_add, List.nil_append] at hgr hr ⊢
      exact ⟨_, _, hr, hgr.1, hgr.2, .inr ⟨w.heap.size, rfl, Nat.le_refl _⟩⟩
  · by_cases hroom : n + m ≤ cap
    · have hfit : n * i.size + news.length ≤ cur.size := by rw [hl, hcs, ← Nat.add_mul]; exact Nat.mul_le_mul_right _ hroom
      have hst := run_storeCells_at P g (n * i.size) e news 0 cur w hg (by simpa using hfit) h1
      simp only [Nat.add_zero] at hst
      have hr : (Builtin.append_ #[t, tx] ty #[.slice (some ⟨g, 0, none⟩) n cap, x]).run P w = .ok (.slice (some ⟨g, 0, none⟩) (n + m) cap) (w.setRow g (cur.toList.take (n * i.size) ++ news ++ cur.toList.drop (n * i.size + news.length)).toArray) := by
        rcases hs.kind with ⟨e', hk⟩ | hk <;> simp [Builtin.append_, run_underlying ht, run_underlying hk, sizeOf, typeInfo, hi, hs.len, hroom, hs.cells, add_none] <;> simp [hst]
      refine ⟨_, _, hr, ⟨hlen, .inr ⟨g, cap, _, rfl, hbg, setRow_heap w g cur _ e _ hg, hroom, hcm, ?_, ?_⟩⟩, ⟨rfl, rfl, rfl, by simp, fun k _ hk => setRow_other w g k _ (fun e => hk (by simp [Value.ownBlock, e]))⟩, .inl rfl⟩
      · simp only [List.size_toArray, List.length_append, List.length_take, List.length_drop, Array.length_toList]
        omega
      · rw [htake, ← hlen]
        exact List.take_left
    · have holds : ∀ j u, xs[j]? = some u → w.cell? ((⟨g, 0, none⟩ : Addr).add j) = some u := hown.cells (g := g) rfl
      have hr := run_append_grow_src (P := P) w t tx ty e i z ht hi hz (some ⟨g, 0, none⟩) n cap xs (run_firstCells_some w.drew i.size n ⟨g, 0, none⟩ n cap xs hown.1 (by simpa using holds)) x m news hs (by omega) (by omega) (growslice_fits (by omega) hbytes)
      have hgr := grown cap (by omega) (Value.ownBlock (.slice (some ⟨g, 0, none⟩) n cap))
      exact ⟨_, _, hr, hgr.1, hgr.2, .inr ⟨w.heap.size, rfl, Nat.le_refl _⟩⟩

theorem opw_appendT (hT : TreeT P X) {a : Act} {w : World} {K : Act → World → Prop} {d : Option Tmp} {g : Option (Nat × Bool)} {x y : Operand} {B j : Nat} {lv : Value} {cells r : List Value} {ad : Addr} {ts : Array TypeId} (hts : ts = #[X.Ts, X.Ts]) (hx : a.eval x = lv) (hy : a.eval y = .slice (some ad) 1 1) (ho : w.ownsRow B X.T 5 lv j cells) (hB : B ≤ w.heap.size) (hj : j < 4294967296)
    (hr : r.length = 5) (hrc : ∀ i v, r[i]? = some v → w.cell? (ad.add i) = some v) (hr1 : ∀ v ∈ r, v.oneCell' = true)
    (h : ∀ lv' w', w'.ownsRow B X.T 5 lv' (j + 1) (cells ++ r) → w.grownBy w' lv.ownBlock → (lv'.ownBlock = lv.ownBlock ∨ ∃ b, lv'.ownBlock = some b ∧ w.heap.size ≤ b) → K (a.put d lv') w') : opw P ⟨d, .call ⟨.builtin .append, #[x, y], ts⟩, g⟩ a w K := by
  subst hts
  obtain ⟨i, hi, hz, hsz, hby⟩ := hT.info
  have hb : (j + 1) * i.bytes ≤ 140737488355328 := Nat.le_trans (Nat.mul_le_mul (show j + 1 ≤ 4294967296 by omega) hby) (by decide)
  refine opw_of fun o next Q hd hop hn => ?_
  obtain ⟨v', w', hr, h2, h3, h4⟩ := run_append_src2 (P := P) w B X.Ts X.Ts o.type X.T i zeroTV 5 i.bytes hT.row hi hz hsz rfl rfl (by decide) lv j cells ho (.slice (some ad) 1 1) 1 r (Src.ofSlice w hT.row ad 1 1 r (by omega) hrc hr1) (by simp only [maxLen]; omega) hb hB
  have hop' : o.op = .call ⟨.builtin .append, #[x, y], #[X.Ts, X.Ts]⟩ := stripOp_eq (by simp) hop
  have hr' : (execOp a.eval o).run P w = .ok (.value v') w' := by
    simp [execOp, hop', resolve, invoke, builtin, hx, hy, hr]
  rw [hr', Oper.upon_value, hd]
  exact hn _ _ (h v' w' h2 h3 h4)

/-- the rows that the loop has laid -/
def Rows (G : List (Nat × Bytes) → Prop) (X : STy) (fs : Fs) (w0 w : World) (lv : Value) (j : Nat) : Prop :=
  ∃ (rows : List (List Value)) (F : Nat → Prop), w.ownsRow (w0.heap.size + 2) X.T 5 lv j rows.flatten ∧ rows.length = j ∧ (∀ r ∈ rows, r.length = 5) ∧
    (∀ (i : Nat) (r : List Value) (x : Tree), rows[i]? = some r → (defL fs)[i]? = some x → TV G w F x (.agg r.toArray)) ∧ (∀ k, F k → w0.heap.size + 2 ≤ k ∧ k < w.heap.size ∧ lv.ownBlock ≠ some k)

theorem Rows.keep {fs : Fs} {w0 w w' : World} {lv : Value} {j : Nat} (h : Rows G X fs w0 w lv j) (hb : ∀ k, w0.heap.size + 2 ≤ k → k < w.heap.size → w'.heap[k]? = w.heap[k]?) (hs : w.heap.size ≤ w'.heap.size) : Rows G X fs w0 w' lv j := by
  obtain ⟨rows, F, h1, h2, h3, h4, h5⟩ := h
  refine ⟨rows, F, ⟨h1.1, h1.2.imp id ?_⟩, h2, h3, fun i r x hi hx => (h4 i r x hi hx).mono (fun _ h => h) (fun k hk => hb k (h5 k hk).1 (h5 k hk).2.1), fun k hk => ⟨(h5 k hk).1, Nat.lt_of_lt_of_le (h5 k hk).2.1 hs, (h5 k hk).2.2⟩⟩
  rintro ⟨g, cap, cur, q1, q2, q3, q4⟩
  exact ⟨g, cap, cur, q1, q2, by rw [hb g q2 (Array.getElem?_eq_some_iff.1 q3).1]; exact q3, q4⟩

theorem default_ok (hX : stOK P X = true) (hTF : arrB P X.F 8 = true) (hT : TreeT P X) (h0G : G []) (oD : FnOK P f) (hf : P.funcs[f]? = some fn) (hb : fn.body.map strip = some (sc_SDefault X.T X.Fs X.I X.F X.I64 X.Ts f)) (hn : fn.ntmps = 35) (hr : fn.results = #[.cell 2 X.T])
    (fs : Fs) (hlen63 : Fs.len fs < 4294967296) (cP : SubsD (DefC G P f) fs) : DefC G P f fs := by
  intro w fv hfv
  have hst := st_facts hX
  obtain ⟨hTF1, iF, zF, hiF, hzF, hzFs⟩ := arr_of hTF
  obtain ⟨iT, hiT, hzT, hszT, hbyT⟩ := hT.info
  obtain ⟨fb, fcap, rfl, hfs⟩ := hfv
  refine fn_calls hf hb hn (by simp) fun a0 hs hd ha => ?_
  have h0 := ha 0 _ rfl
  simp only [List.getElem_toArray, List.getElem_cons_zero, List.getElem_cons_succ] at h0
  refine SC.wp_seq (SC.wp_reg (opsw_none rfl (opw_alloc hiT hzT (ops_nil ?_))))
  refine SC.wp_seq (SC.wp_reg (opsw_none rfl (opw_alloc hiT hzT (ops_nil ?_))))
  have hh2 : ((w.alloc (.cells zeroTV.cells X.T)).alloc (.cells zeroTV.cells X.T)).heap[w.heap.size]? = some (.cells #[.int .i64 0, .slice none 0 0, .bool false, .slice none 0 0, .slice none 0 0] X.T (0, 0)) := by
    rw [Below.heap_alloc _ _ _ (by simp)]; exact heap_alloc_new w _
  have hh3 : ((w.alloc (.cells zeroTV.cells X.T)).alloc (.cells zeroTV.cells X.T)).heap[w.heap.size + 1]? = some (.cells #[.int .i64 0, .slice none 0 0, .bool false, .slice none 0 0, .slice none 0 0] X.T (0, 0)) := by
    have := heap_alloc_new (w.alloc (.cells zeroTV.cells X.T)) (.cells zeroTV.cells X.T)
    rw [show (w.alloc (.cells zeroTV.cells X.T)).heap.size = w.heap.size + 1 by simp] at this
    exact this
  have hbw : Below w.heap.size w ((w.alloc (.cells zeroTV.cells X.T)).alloc (.cells zeroTV.cells X.T)) := ((Below.refl _ _).alloc (Nat.le_refl _) _).alloc (by simp) _
  have hsz : ((w.alloc (.cells zeroTV.cells X.T)).alloc (.cells zeroTV.cells X.T)).heap.size = w.heap.size + 2 := by simp
  rw [show (w.alloc (.cells zeroTV.cells X.T)).heap.size = w.heap.size + 1 by simp]
  generalize (w.alloc (.cells zeroTV.cells X.T)).alloc (.cells zeroTV.cells X.T) = w1 at *
  refine SC.wp_seq (SC.wp_seq (SC.wp_reg ?_))
  repeat (first | (apply ops_1; (focus (simp (disch := first | omega | (simp only [size_put]; omega)) [qv, qcall, vop, iop, eval_tmp, eval_const, put_none, getT_put, getT_put_ne, hst, h0]; try rfl))) | (apply ops_y; (focus rfl); (focus (first | omega | (simp only [size_put]; omega))); (focus (simp (disch := first | omega | (simp only [size_put]; omega)) [put_none, getT_put, getT_put_ne, hst, h0]; done)); (focus (simp (disch := first | omega | (simp only [size_put]; omega)) [qv, qcall, vop, iop, eval_tmp, eval_const, put_none, getT_put, getT_put_ne, hst, h0]; try rfl))) | (apply ops_n; (focus rfl); (focus (first | omega | (simp only [size_put]; omega))); (focus (first | (left; simp (disch := first | omega | (simp only [size_put]; omega)) [put_none, getT_put, getT_put_ne, hst, h0]; done) | (right; simp (disch := first | omega | (simp only [size_put]; omega)) [put_none, getT_put, getT_put_ne]; done)))))
  refine ops_nil ?_
  simp only [Exit.then]
  refine SC.wp_block (SC.wp_loop (fun a4 w5 => ∃ (j : Nat) (lv : Value), a4.tmps.size = 35 ∧ a4.defers = [] ∧ getT a4 2 = .pointer (some ⟨w.heap.size, 0, none⟩) ∧ getT a4 3 = .pointer (some ⟨w.heap.size + 1, 0, none⟩) ∧ getT a4 7 = .slice fb (Fs.len fs) fcap ∧ getT a4 8 = .int .i64 (Fs.len fs : Int) ∧ getT a4 9 = .int .i64 (j : Int) ∧ j ≤ Fs.len fs ∧
      w5.heap[w.heap.size]? = some (.cells #[.int .i64 0, .slice none 0 0, .bool false, .slice none 0 0, .slice none 0 0] X.T (0, 0)) ∧ w5.heap[w.heap.size + 1]? = some (.cells #[.int .i64 0, .slice none 0 0, .bool false, lv, .slice none 0 0] X.T (0, 0)) ∧ Rows G X fs w w5 lv j ∧ Below w.heap.size w w5 ∧ w.heap.size + 2 ≤ w5.heap.size)
    (fun a4 _ => match getT a4 9 with | .int _ m => (Fs.len fs - m).toNat | _ => 0) ⟨0, .slice none 0 0, by simp [size_put, hs], by simp [defers_put, hd], by simp (disch := first | omega | (simp only [size_put]; omega)) [eval_tmp, eval_const, put_none, getT_put, getT_put_ne], by simp (disch := first | omega | (simp only [size_put]; omega)) [eval_tmp, eval_const, put_none, getT_put, getT_put_ne], by simp (disch := first | omega | (simp only [size_put]; omega)) [eval_tmp, eval_const, put_none, getT_put, getT_put_ne], by simp (disch := first | omega | (simp only [size_put]; omega)) [eval_tmp, eval_const, put_none, getT_put, getT_put_ne], by simp (disch := first | omega | (simp only [size_put]; omega)) [eval_tmp, eval_const, put_none, getT_put, getT_put_ne], by omega, hh2, hh3, ⟨[], fun _ => False, World.ownsRow_nil _ _ _ _, rfl, by simp, by simp, fun k h => h.elim⟩, hbw, by omega⟩ ?_)
  rintro a4 w5 ⟨j, lv, q, qd, q2, q3, q7, q8, q9, hj, p2, p3, hR, hb5, hsz5⟩
  refine SC.wp_seq (SC.wp_reg ?_)
  repeat (first | (apply ops_1; (focus (simp (disch := first | omega | (simp only [size_put]; omega)) [qv, qcall, vop, iop, eval_tmp, eval_const, put_none, getT_put, getT_put_ne, hst, q8, q9]; try rfl))) | (apply ops_y; (focus rfl); (focus (first | omega | (simp only [size_put]; omega))); (focus (simp (disch := first | omega | (simp only [size_put]; omega)) [put_none, getT_put, getT_put_ne, hst, q8, q9]; done)); (focus (simp (disch := first | omega | (simp only [size_put]; omega)) [qv, qcall, vop, iop, eval_tmp, eval_const, put_none, getT_put, getT_put_ne, hst, q8, q9]; try rfl))) | (apply ops_n; (focus rfl); (focus (first | omega | (simp only [size_put]; omega))); (focus (first | (left; simp (disch := first | omega | (simp only [size_put]; omega)) [put_none, getT_put, getT_put_ne, hst, q8, q9]; done) | (right; simp (disch := first | omega | (simp only [size_put]; omega)) [put_none, getT_put, getT_put_ne]; done)))))
  refine ops_nil ?_
  simp only [Exit.then]
  refine SC.wp_seq (SC.wp_cond (t := decide ((j : Int) < (Fs.len fs : Int))) (by simp (disch := first | omega | (simp only [size_put]; omega)) [eval_tmp, eval_const, put_none, getT_put, getT_put_ne]) ?_)
  cases e1 : decide ((j : Int) < (Fs.len fs : Int))
  · have hje : j = Fs.len fs := by simp at e1; omega
    subst hje
    rw [if_neg (by simp)]
    refine SC.wp_exit ?_
    simp only [Exit.then, Exit.inBlock, if_true]
    have hc3 : ∀ i, w5.cell? ⟨w.heap.size + 1, i, none⟩ = #[Value.int .i64 0, .slice none 0 0, .bool false, lv, .slice none 0 0][i]? := fun i => cell_of_row _ _ _ _ _ _ p3
    have hT5 : rangeV w5 (w.heap.size + 1) 0 5 = some [.int .i64 0, .slice none 0 0, .bool false, lv, .slice none 0 0] := by simp [rangeV, hc3]
    refine SC.wp_seq (SC.wp_reg ?_)
    iterate 1 (first | (apply ops_1; (focus (simp (disch := first | omega | (simp only [size_put]; omega)) [qv, qcall, vop, iop, eval_tmp, eval_const, put_none, getT_put, getT_put_ne, hst, q3, hT5]; try rfl))) | (apply ops_y; (focus rfl); (focus (first | omega | (simp only [size_put]; omega))); (focus (simp (disch := first | omega | (simp only [size_put]; omega)) [put_none, getT_put, getT_put_ne, hst, q3, hT5]; done)); (focus (simp (disch := first | omega | (simp only [size_put]; omega)) [qv, qcall, vop, iop, eval_tmp, eval_const, put_none, getT_put, getT_put_ne, hst, q3, hT5]; try rfl))) | (apply ops_n; (focus rfl); (focus (first | omega | (simp only [size_put]; omega))); (focus (first | (left; simp (disch := first | omega | (simp only [size_put]; omega)) [put_none, getT_put, getT_put_ne, hst, q3, hT5]; done) | (right; simp (disch := first | omega | (simp only [size_put]; omega)) [put_none, getT_put, getT_put_ne]; done)))))
    obtain ⟨rows, F, o1, o2, o3, o4, o5⟩ := hR
    have hlv1 : lv.oneCell' = true := by rcases o1.2 with ⟨rfl, _⟩ | ⟨g, cap, cur, rfl, _⟩ <;> rfl
    refine opsw_none rfl (opw_store_agg (b := w.heap.size) (cs := [.int .i64 0, .slice none 0 0, .bool false, lv, .slice none 0 0]) hT.agg (by simp (disch := first | omega | (simp only [size_put]; omega)) [eval_tmp, eval_const, put_none, getT_put, getT_put_ne, q2]) (by simp (disch := first | omega | (simp only [size_put]; omega)) [eval_tmp, eval_const, put_none, getT_put, getT_put_ne]) p2 rfl (by
      intro v hv
      simp only [List.mem_cons, List.not_mem_nil, or_false] at hv
      rcases hv with rfl | rfl | rfl | rfl | rfl <;> first | rfl | exact hlv1) (ops_nil (SC.wp_ret ?_)))
    have hnew := setRow_heap w5 w.heap.size _ #[.int .i64 0, .slice none 0 0, .bool false, lv, .slice none 0 0] _ _ p2
    have hbn : Below w.heap.size w (w5.setRow w.heap.size #[.int .i64 0, .slice none 0 0, .bool false, lv, .slice none 0 0]) := below_setRow hb5 (Nat.le_refl _) _
    have hoth : ∀ k, w.heap.size < k → (w5.setRow w.heap.size #[.int .i64 0, .slice none 0 0, .bool false, lv, .slice none 0 0]).heap[k]? = w5.heap[k]? := fun k hk => setRow_other _ _ _ _ (by omega)
    have hsn : (w5.setRow w.heap.size #[.int .i64 0, .slice none 0 0, .bool false, lv, .slice none 0 0]).heap.size = w5.heap.size := by simp
    have hpt : getT a4 2 = .pointer (some ⟨w.heap.size, 0, none⟩) := q2
    refine ret_cell hr (by simp [hst]) (b := w.heap.size) (by simp (disch := first | omega | (simp only [size_put]; omega)) [eval_tmp, eval_const, put_none, getT_put, getT_put_ne, q2]) hnew (by simp [defers_put, qd]) ⟨_, rfl, ?_, hbn⟩
    generalize (w5.setRow w.heap.size #[.int .i64 0, .slice none 0 0, .bool false, lv, .slice none 0 0]) = w6 at *
    have hlen := defL_len fs
    have hTVs : ∀ (i : Nat) (x : Tree), (defL fs)[i]? = some x → ∃ r : List Value, rows[i]? = some r ∧ TV G w6 (fun k => w.heap.size ≤ k ∧ k < w6.heap.size) x (.agg r.toArray) := by
      intro i x hx
      have hi : i < rows.length := by
        have := (List.getElem?_eq_some_iff.1 hx).1
        omega
      refine ⟨rows[i], List.getElem?_eq_getElem hi, (o4 i _ x (List.getElem?_eq_getElem hi) hx).mono (fun k hk => ?_) (fun k hk => hoth k ?_)⟩
      · have := o5 k hk
        omega
      · have := o5 k hk
        omega
    have main : ∀ (base : Option Addr) (cap b : Nat), lv = .slice base (Fs.len fs) cap → Fs.len fs ≤ cap → (defL fs ≠ [] → base = some ⟨b, 0, none⟩ ∧ (w.heap.size ≤ b ∧ b < w6.heap.size)) → (∀ i, i < (defL fs).length → rangeV w6 b (0 + i * 5) 5 = some (rows.getD i [])) →
        TV G w6 (fun k => w.heap.size ≤ k ∧ k < w6.heap.size) (.mk 0 [] false (defL fs) []) (.agg #[.int .i64 0, .slice none 0 0, .bool false, lv, .slice none 0 0]) := by
      intro base cap b z1 z2 z3 z4
      have := TV.mk (G := G) (w := w6) (F := fun k => w.heap.size ≤ k ∧ k < w6.heap.size) 0 [] false (defL fs) [] none base none 0 cap 0 b 0 (fun i => rows.getD i []) (.inl ⟨rfl, rfl⟩) (Nat.le_refl _) (by rw [hlen]; exact z2) (Nat.le_refl _) z3 z4 (fun i x hx => by
        obtain ⟨r, hr1, hr2⟩ := hTVs i x hx
        have : rows.getD i [] = r := by simp [List.getD, hr1]
        show TV G w6 _ x (.agg (rows.getD i []).toArray)
        rw [this]
        exact hr2) h0G (.inl rfl)
      rw [hlen] at this
      rw [z1]
      exact this
    rcases o1.2 with ⟨hlv, h00⟩ | ⟨g, cap, cur, hlv, hBg, hg, hnc, hcm, hcs, htake⟩
    · rw [h00] at hlen
      have hnil : defL fs = [] := List.eq_nil_of_length_eq_zero hlen
      exact main none 0 0 (by rw [hlv, h00]) (by omega) (fun h => absurd hnil h) (fun i hi => by rw [hnil] at hi; simp at hi)
    · refine main (some ⟨g, 0, none⟩) cap g hlv hnc (fun _ => ⟨rfl, by omega, ?_⟩) (fun i hi => ?_)
      · have := (Array.getElem?_eq_some_iff.1 hg).1
        omega
      · have hir : i < rows.length := by omega
        have hri : rows.getD i [] = rows[i] := by simp [List.getD, List.getElem?_eq_getElem hir]
        have hr5 : rows[i].length = 5 := o3 _ (List.getElem_mem hir)
        rw [hri, ← hr5]
        refine rangeV_of _ _ (fun k v hv => ?_)
        rw [World.cell?_of_block (w := w5) (a := ⟨g, _, none⟩) (hoth g (by omega))]
        have hfl := rows_get rows 5 o3 i _ (List.getElem?_eq_getElem hir) k v hv
        have hcl := World.ownsRow.cells o1 (g := g) (by rw [hlv]; rfl) _ v hfl
        rw [add_none] at hcl
        rw [← hcl, hr5]
        simp
  · have hjl : j < Fs.len fs := by simp at e1; omega
    rw [if_pos rfl]
    refine SC.wp_skip ?_
    simp only [Exit.then]
    obtain ⟨h, ty, hdrop⟩ := drop_cons j fs hjl
    rcases hfs with hfs | ⟨b, o, rfl, hbF, hfs⟩
    · omega
    have hdj := defL_at j fs h ty _ hdrop
    have hfj := fsAt_drop j fs b o hfs
    have hcj := subsD_drop j fs cP
    rw [hdrop] at hfj hcj
    simp only [FsAt, SubsD] at hfj hcj
    obtain ⟨⟨of_, sub, hr8, h1c, hof, hsub⟩, _⟩ := hfj
    have hr8' := (rangeV_mono (w := w5) (hb5.block b hbF) 8 (o + j * 8)).trans hr8
    have ej : (0 : Int) ≤ (j : Int) ∧ (j : Int) < (Fs.len fs : Int) := by omega
    refine SC.wp_seq (SC.wp_block (SC.wp_seq (SC.wp_reg ?_)))
    iterate 2 (first | (apply ops_1; (focus (simp (disch := first | omega | (simp only [size_put]; omega)) [qv, qcall, vop, iop, eval_tmp, eval_const, put_none, getT_put, getT_put_ne, hst, q7, q9, ej, hr8', hjl]; try rfl))) | (apply ops_y; (focus rfl); (focus (first | omega | (simp only [size_put]; omega))); (focus (simp (disch := first | omega | (simp only [size_put]; omega)) [put_none, getT_put, getT_put_ne, hst, q7, q9, ej, hr8', hjl]; done)); (focus (simp (disch := first | omega | (simp only [size_put]; omega)) [qv, qcall, vop, iop, eval_tmp, eval_const, put_none, getT_put, getT_put_ne, hst, q7, q9, ej, hr8', hjl]; try rfl))) | (apply ops_n; (focus rfl); (focus (first | omega | (simp only [size_put]; omega))); (focus (first | (left; simp (disch := first | omega | (simp only [size_put]; omega)) [put_none, getT_put, getT_put_ne, hst, q7, q9, ej, hr8', hjl]; done) | (right; simp (disch := first | omega | (simp only [size_put]; omega)) [put_none, getT_put, getT_put_ne]; done)))))
    refine opsw_none rfl (opw_alloc hiF hzF ?_)
    refine opsw_none rfl (opw_store_agg (b := w5.heap.size) (cs := [.int .i64 (kindOf ty), .int .i64 h.from_, .int .i64 h.to, .int .i64 h.null, .int .i64 (-1), .int .i64 h.dflt, .int .i64 of_, sub]) hTF1 (by simp (disch := first | omega | (simp only [size_put]; omega)) [eval_tmp, eval_const, put_none, getT_put, getT_put_ne]) (by simp (disch := first | omega | (simp only [size_put]; omega)) [eval_tmp, eval_const, put_none, getT_put, getT_put_ne]) (heap_alloc_new w5 _) (by simp [hzFs]) (by
      intro v hv
      simp only [List.mem_cons, List.not_mem_nil, or_false] at hv
      rcases hv with rfl | rfl | rfl | rfl | rfl | rfl | rfl | rfl <;> first | rfl | exact h1c) (ops_nil ?_))
    have hnew : ((w5.alloc (.cells zF.cells X.F)).setRow w5.heap.size #[.int .i64 (kindOf ty), .int .i64 h.from_, .int .i64 h.to, .int .i64 h.null, .int .i64 (-1), .int .i64 h.dflt, .int .i64 of_, sub]).heap[w5.heap.size]? = some (.cells #[.int .i64 (kindOf ty), .int .i64 h.from_, .int .i64 h.to, .int .i64 h.null, .int .i64 (-1), .int .i64 h.dflt, .int .i64 of_, sub] X.F (0, 0)) := setRow_heap _ _ _ _ _ _ (heap_alloc_new w5 _)
    have hb6 : Below w5.heap.size w5 ((w5.alloc (.cells zF.cells X.F)).setRow w5.heap.size #[.int .i64 (kindOf ty), .int .i64 h.from_, .int .i64 h.to, .int .i64 h.null, .int .i64 (-1), .int .i64 h.dflt, .int .i64 of_, sub]) := below_setRow ((Below.refl _ _).alloc (Nat.le_refl _) _) (Nat.le_refl _) _
    have hsz6 : ((w5.alloc (.cells zF.cells X.F)).setRow w5.heap.size #[.int .i64 (kindOf ty), .int .i64 h.from_, .int .i64 h.to, .int .i64 h.null, .int .i64 (-1), .int .i64 h.dflt, .int .i64 of_, sub]).heap.size = w5.heap.size + 1 := by simp
    simp only [Exit.then, put_none]
    generalize ((w5.alloc (.cells zF.cells X.F)).setRow w5.heap.size #[.int .i64 (kindOf ty), .int .i64 h.from_, .int .i64 h.to, .int .i64 h.null, .int .i64 (-1), .int .i64 h.dflt, .int .i64 of_, sub]) = w6 at *
    have hc6 : ∀ i, w6.cell? ⟨w5.heap.size, i, none⟩ = #[Value.int .i64 (kindOf ty), .int .i64 h.from_, .int .i64 h.to, .int .i64 h.null, .int .i64 (-1), .int .i64 h.dflt, .int .i64 of_, sub][i]? := fun i => cell_of_row _ _ _ _ _ _ hnew
    refine SC.wp_seq (SC.wp_reg ?_)
    iterate 5 (first | (apply ops_1; (focus (simp (disch := first | omega | (simp only [size_put]; omega)) [qv, qcall, vop, iop, eval_tmp, eval_const, put_none, getT_put, getT_put_ne, hst, hc6]; try rfl))) | (apply ops_y; (focus rfl); (focus (first | omega | (simp only [size_put]; omega))); (focus (simp (disch := first | omega | (simp only [size_put]; omega)) [put_none, getT_put, getT_put_ne, hst, hc6]; done)); (focus (simp (disch := first | omega | (simp only [size_put]; omega)) [qv, qcall, vop, iop, eval_tmp, eval_const, put_none, getT_put, getT_put_ne, hst, hc6]; try rfl))) | (apply ops_n; (focus rfl); (focus (first | omega | (simp only [size_put]; omega))); (focus (first | (left; simp (disch := first | omega | (simp only [size_put]; omega)) [put_none, getT_put, getT_put_ne, hst, hc6]; done) | (right; simp (disch := first | omega | (simp only [size_put]; omega)) [put_none, getT_put, getT_put_ne]; done)))))
    refine opsw_none rfl (opw_build (cs := #[.int .i64 h.dflt, .slice none 0 0, .bool (decide (0 ≤ h.null)), .slice none 0 0, .slice none 0 0]) (by
      rw [← hT.built]
      congr 1
      simp (disch := first | omega | (simp only [size_put]; omega)) [eval_tmp, eval_const, put_none, getT_put, getT_put_ne]) ?_)
    refine opsw_none rfl (opw_alloc hiT hzT ?_)
    refine opsw_none rfl (opw_store_agg (b := w6.heap.size) (cs := [.int .i64 h.dflt, .slice none 0 0, .bool (decide (0 ≤ h.null)), .slice none 0 0, .slice none 0 0]) hT.agg (by simp (disch := first | omega | (simp only [size_put]; omega)) [eval_tmp, eval_const, put_none, getT_put, getT_put_ne]) (by simp (disch := first | omega | (simp only [size_put]; omega)) [eval_tmp, eval_const, put_none, getT_put, getT_put_ne]) (heap_alloc_new w6 _) (by simp [zeroTV, treV, Value.cells]) (by
      intro v hv
      simp only [List.mem_cons, List.not_mem_nil, or_false] at hv
      rcases hv with rfl | rfl | rfl | rfl | rfl <;> rfl) (ops_nil ?_))
    have hnew7 : ((w6.alloc (.cells zeroTV.cells X.T)).setRow w6.heap.size #[.int .i64 h.dflt, .slice none 0 0, .bool (decide (0 ≤ h.null)), .slice none 0 0, .slice none 0 0]).heap[w6.heap.size]? = some (.cells #[.int .i64 h.dflt, .slice none 0 0, .bool (decide (0 ≤ h.null)), .slice none 0 0, .slice none 0 0] X.T (0, 0)) := setRow_heap _ _ _ _ _ _ (heap_alloc_new w6 _)
    have hb7 : Below w6.heap.size w6 ((w6.alloc (.cells zeroTV.cells X.T)).setRow w6.heap.size #[.int .i64 h.dflt, .slice none 0 0, .bool (decide (0 ≤ h.null)), .slice none 0 0, .slice none 0 0]) := below_setRow ((Below.refl _ _).alloc (Nat.le_refl _) _) (Nat.le_refl _) _
    have hsz7 : ((w6.alloc (.cells zeroTV.cells X.T)).setRow w6.heap.size #[.int .i64 h.dflt, .slice none 0 0, .bool (decide (0 ≤ h.null)), .slice none 0 0, .slice none 0 0]).heap.size = w6.heap.size + 1 := by simp
    simp only [Exit.then, put_none]
    generalize ((w6.alloc (.cells zeroTV.cells X.T)).setRow w6.heap.size #[.int .i64 h.dflt, .slice none 0 0, .bool (decide (0 ≤ h.null)), .slice none 0 0, .slice none 0 0]) = w7 at *
    have hb57 : Below w5.heap.size w5 w7 := hb6.trans (hb7.mono (by omega))
    have hc7 : ∀ i, w7.cell? ⟨w5.heap.size, i, none⟩ = #[Value.int .i64 (kindOf ty), .int .i64 h.from_, .int .i64 h.to, .int .i64 h.null, .int .i64 (-1), .int .i64 h.dflt, .int .i64 of_, sub][i]? := fun i => (World.cell?_of_block (w := w6) (w' := w7) (a := ⟨w5.heap.size, i, none⟩) (hb7.block w5.heap.size (by omega))).trans (hc6 i)
    rw [hsz6] at hnew7 ⊢
    refine gen_act (fun a6 => a6.tmps.size = 35 ∧ a6.defers = [] ∧ getT a6 2 = .pointer (some ⟨w.heap.size, 0, none⟩) ∧ getT a6 3 = .pointer (some ⟨w.heap.size + 1, 0, none⟩) ∧ getT a6 7 = .slice (some ⟨b, o, none⟩) (Fs.len fs) fcap ∧ getT a6 8 = .int .i64 (Fs.len fs : Int) ∧ getT a6 9 = .int .i64 (j : Int) ∧ getT a6 5 = .pointer (some ⟨w5.heap.size, 0, none⟩) ∧ getT a6 6 = .pointer (some ⟨w5.heap.size + 1, 0, none⟩))
      ⟨by simp [size_put, q], by simp [defers_put, qd], by simp (disch := first | omega | (simp only [size_put]; omega)) [eval_tmp, eval_const, put_none, getT_put, getT_put_ne, q2], by simp (disch := first | omega | (simp only [size_put]; omega)) [eval_tmp, eval_const, put_none, getT_put, getT_put_ne, q3], by simp (disch := first | omega | (simp only [size_put]; omega)) [eval_tmp, eval_const, put_none, getT_put, getT_put_ne, q7], by simp (disch := first | omega | (simp only [size_put]; omega)) [eval_tmp, eval_const, put_none, getT_put, getT_put_ne, q8], by simp (disch := first | omega | (simp only [size_put]; omega)) [eval_tmp, eval_const, put_none, getT_put, getT_put_ne, q9], by simp (disch := first | omega | (simp only [size_put]; omega)) [eval_tmp, eval_const, put_none, getT_put, getT_put_ne], by simp (disch := first | omega | (simp only [size_put]; omega)) [eval_tmp, eval_const, put_none, getT_put, getT_put_ne]⟩ ?_
    rintro a6 ⟨z, zd, z2, z3, z7, z8, z9, z5, z6⟩
    have tail : ∀ (a8 : Act) (w8 : World) (ls : Value), a8.tmps.size = 35 → a8.defers = [] → getT a8 2 = .pointer (some ⟨w.heap.size, 0, none⟩) → getT a8 3 = .pointer (some ⟨w.heap.size + 1, 0, none⟩) → getT a8 7 = .slice (some ⟨b, o, none⟩) (Fs.len fs) fcap → getT a8 8 = .int .i64 (Fs.len fs : Int) → getT a8 9 = .int .i64 (j : Int) → getT a8 6 = .pointer (some ⟨w5.heap.size + 1, 0, none⟩) →
        w8.heap[w5.heap.size + 1]? = some (.cells #[.int .i64 h.dflt, .slice none 0 0, .bool (decide (0 ≤ h.null)), ls, .slice none 0 0] X.T (0, 0)) → Below w5.heap.size w5 w8 → w5.heap.size + 2 ≤ w8.heap.size → ls.oneCell' = true →
        TV G w8 (fun k => w5.heap.size + 2 ≤ k ∧ k < w8.heap.size) (defT h ty) (.agg #[.int .i64 h.dflt, .slice none 0 0, .bool (decide (0 ≤ h.null)), ls, .slice none 0 0]) →
        ∀ Q' : Exit → Act → World → Prop, (∀ a' w' lv', a'.tmps.size = 35 → a'.defers = [] → getT a' 2 = .pointer (some ⟨w.heap.size, 0, none⟩) → getT a' 3 = .pointer (some ⟨w.heap.size + 1, 0, none⟩) → getT a' 7 = .slice (some ⟨b, o, none⟩) (Fs.len fs) fcap → getT a' 8 = .int .i64 (Fs.len fs : Int) → getT a' 9 = .int .i64 (j : Int) →
          w'.heap[w.heap.size]? = some (.cells #[.int .i64 0, .slice none 0 0, .bool false, .slice none 0 0, .slice none 0 0] X.T (0, 0)) → w'.heap[w.heap.size + 1]? = some (.cells #[.int .i64 0, .slice none 0 0, .bool false, lv', .slice none 0 0] X.T (0, 0)) → Rows G X fs w w' lv' (j + 1) → Below w.heap.size w w' → w.heap.size + 2 ≤ w'.heap.size → Q' .normal a' w') →
        SC.wp P (.reg [fa 27 X.T 3 3, ld 28 X.Ts 27, ld 29 X.T 6, ⟨some 30, .buildSlice X.Ts 1 #[(0, (.tmp 29))], none⟩, ⟨some 31, .call ⟨.builtin .append, #[(.tmp 28), (.tmp 30)], #[X.Ts, X.Ts]⟩, none⟩, fa 32 X.T 3 3, ⟨none, .store X.Ts (.tmp 32) (.tmp 31), none⟩]) Q' a8 w8 := by
      intro a8 w8 ls y yd y2 y3 y7 y8 y9 y6 hn8 hb8 hs8 hls1 htv Q' hQ'
      have p2' : w8.heap[w.heap.size]? = _ := (hb8.block w.heap.size (by omega)).trans p2
      have p3' : w8.heap[w.heap.size + 1]? = _ := (hb8.block (w.heap.size + 1) (by omega)).trans p3
      have hc3 : ∀ i, w8.cell? ⟨w.heap.size + 1, i, none⟩ = #[Value.int .i64 0, .slice none 0 0, .bool false, lv, .slice none 0 0][i]? := fun i => cell_of_row _ _ _ _ _ _ p3'
      have hc8 : ∀ i, w8.cell? ⟨w5.heap.size + 1, i, none⟩ = #[Value.int .i64 h.dflt, .slice none 0 0, .bool (decide (0 ≤ h.null)), ls, .slice none 0 0][i]? := fun i => cell_of_row _ _ _ _ _ _ hn8
      have hT5 : rangeV w8 (w5.heap.size + 1) 0 5 = some [.int .i64 h.dflt, .slice none 0 0, .bool (decide (0 ≤ h.null)), ls, .slice none 0 0] := by simp [rangeV, hc8]
      have hR8 : Rows G X fs w w8 lv j := hR.keep (fun k h1 h2 => hb8.block k h2) hb8.size
      have hlvlt : ∀ k, lv.ownBlock = some k → w.heap.size + 2 ≤ k ∧ k < w5.heap.size := fun k hk => by
        obtain ⟨rows, F, o1, _⟩ := hR
        exact o1.lt k hk
      refine SC.wp_reg ?_
      iterate 3 (first | (apply ops_1; (focus (simp (disch := first | omega | (simp only [size_put]; omega)) [qv, qcall, vop, iop, eval_tmp, eval_const, put_none, getT_put, getT_put_ne, hst, y3, y6, hc3, hT5]; try rfl))) | (apply ops_y; (focus rfl); (focus (first | omega | (simp only [size_put]; omega))); (focus (simp (disch := first | omega | (simp only [size_put]; omega)) [put_none, getT_put, getT_put_ne, hst, y3, y6, hc3, hT5]; done)); (focus (simp (disch := first | omega | (simp only [size_put]; omega)) [qv, qcall, vop, iop, eval_tmp, eval_const, put_none, getT_put, getT_put_ne, hst, y3, y6, hc3, hT5]; try rfl))) | (apply ops_n; (focus rfl); (focus (first | omega | (simp only [size_put]; omega))); (focus (first | (left; simp (disch := first | omega | (simp only [size_put]; omega)) [put_none, getT_put, getT_put_ne, hst, y3, y6, hc3, hT5]; done) | (right; simp (disch := first | omega | (simp only [size_put]; omega)) [put_none, getT_put, getT_put_ne]; done)))))
      refine opsw_none rfl (opw_buildT hT (n := h.dflt) (s := .slice none 0 0) (b := decide (0 ≤ h.null)) (l := ls) (u := .slice none 0 0) (by simp (disch := first | omega | (simp only [size_put]; omega)) [eval_tmp, eval_const, put_none, getT_put, getT_put_ne, treV]) rfl hls1 rfl ?_)
      have hn9 := heap_alloc_new w8 (.cells #[.int .i64 h.dflt, .slice none 0 0, .bool (decide (0 ≤ h.null)), ls, .slice none 0 0] X.T)
      have hb9 : Below w8.heap.size w8 (w8.alloc (.cells #[.int .i64 h.dflt, .slice none 0 0, .bool (decide (0 ≤ h.null)), ls, .slice none 0 0] X.T)) := (Below.refl _ _).alloc (Nat.le_refl _) _
      have hs9 : (w8.alloc (.cells #[.int .i64 h.dflt, .slice none 0 0, .bool (decide (0 ≤ h.null)), ls, .slice none 0 0] X.T)).heap.size = w8.heap.size + 1 := by simp
      generalize (w8.alloc (.cells #[.int .i64 h.dflt, .slice none 0 0, .bool (decide (0 ≤ h.null)), ls, .slice none 0 0] X.T)) = w9 at *
      have hR9 : Rows G X fs w w9 lv j := hR8.keep (fun k h1 h2 => hb9.block k h2) hb9.size
      obtain ⟨rows, F, o1, o2, o3, o4, o5⟩ := hR9
      refine opsw_none rfl (opw_appendT hT (B := w.heap.size + 2) (j := j) (lv := lv) (cells := rows.flatten) (r := [.int .i64 h.dflt, .slice none 0 0, .bool (decide (0 ≤ h.null)), ls, .slice none 0 0]) (ad := ⟨w8.heap.size, 0, none⟩) rfl (by simp (disch := first | omega | (simp only [size_put]; omega)) [eval_tmp, eval_const, put_none, getT_put, getT_put_ne]) (by simp (disch := first | omega | (simp only [size_put]; omega)) [eval_tmp, eval_const, put_none, getT_put, getT_put_ne]) o1 (by omega) (by omega) rfl (fun i v hv => by
        rw [add_none, cell_of_row _ _ _ _ _ _ hn9]
        simpa using hv) (by
        intro v hv
        simp only [List.mem_cons, List.not_mem_nil, or_false] at hv
        rcases hv with rfl | rfl | rfl | rfl | rfl <;> first | rfl | exact hls1) ?_)
      intro lv' w10 r1 r2 r3
      have hlv' : lv'.oneCell' = true := by rcases r1.2 with ⟨rfl, _⟩ | ⟨g, cap, cur, rfl, _⟩ <;> rfl
      have hs10 : w9.heap.size ≤ w10.heap.size := r2.size
      have hk10 : ∀ k, k < w9.heap.size → lv.ownBlock ≠ some k → w10.heap[k]? = w9.heap[k]? := fun k h1 h2 => r2.block k h1 (fun e => h2 e.symm)
      have hnot : ∀ k, k < w.heap.size + 2 → lv.ownBlock ≠ some k := fun k hk e => by have := hlvlt k e; omega
      have p2n : w10.heap[w.heap.size]? = _ := (hk10 _ (by omega) (hnot _ (by omega))).trans ((hb9.block _ (by omega)).trans p2')
      have p3n : w10.heap[w.heap.size + 1]? = _ := (hk10 _ (by omega) (hnot _ (by omega))).trans ((hb9.block _ (by omega)).trans p3')
      iterate 1 (first | (apply ops_1; (focus (simp (disch := first | omega | (simp only [size_put]; omega)) [qv, qcall, vop, iop, eval_tmp, eval_const, put_none, getT_put, getT_put_ne, hst, y3]; try rfl))) | (apply ops_y; (focus rfl); (focus (first | omega | (simp only [size_put]; omega))); (focus (simp (disch := first | omega | (simp only [size_put]; omega)) [put_none, getT_put, getT_put_ne, hst, y3]; done)); (focus (simp (disch := first | omega | (simp only [size_put]; omega)) [qv, qcall, vop, iop, eval_tmp, eval_const, put_none, getT_put, getT_put_ne, hst, y3]; try rfl))) | (apply ops_n; (focus rfl); (focus (first | omega | (simp only [size_put]; omega))); (focus (first | (left; simp (disch := first | omega | (simp only [size_put]; omega)) [put_none, getT_put, getT_put_ne, hst, y3]; done) | (right; simp (disch := first | omega | (simp only [size_put]; omega)) [put_none, getT_put, getT_put_ne]; done)))))
      refine opsw_none rfl (opw_store_one (ad := ⟨w.heap.size + 1, 3, none⟩) (v := lv') (v0 := lv) hst.2.1.2.2.2.2.2.2.2.1 (by simp (disch := first | omega | (simp only [size_put]; omega)) [eval_tmp, eval_const, put_none, getT_put, getT_put_ne]) (by simp (disch := first | omega | (simp only [size_put]; omega)) [eval_tmp, eval_const, put_none, getT_put, getT_put_ne]) hlv' (by rw [cell_of_row _ _ _ _ _ _ p3n]; rfl) (by simp [World.frozen?, p3n]) ?_)
      refine ops_nil ?_
      rw [setCell_eq_setRow _ _ _ _ _ _ _ p3n]
      have p3f := setRow_heap w10 (w.heap.size + 1) _ ((#[.int .i64 0, .slice none 0 0, .bool false, lv, .slice none 0 0] : Array Value).setIfInBounds 3 lv') _ _ p3n
      have hoth : ∀ k, k ≠ w.heap.size + 1 → (w10.setRow (w.heap.size + 1) ((#[.int .i64 0, .slice none 0 0, .bool false, lv, .slice none 0 0] : Array Value).setIfInBounds 3 lv')).heap[k]? = w10.heap[k]? := fun k hk => setRow_other _ _ _ _ hk
      have hsf : (w10.setRow (w.heap.size + 1) ((#[.int .i64 0, .slice none 0 0, .bool false, lv, .slice none 0 0] : Array Value).setIfInBounds 3 lv')).heap.size = w10.heap.size := by simp
      have hbf : Below w.heap.size w (w10.setRow (w.heap.size + 1) ((#[.int .i64 0, .slice none 0 0, .bool false, lv, .slice none 0 0] : Array Value).setIfInBounds 3 lv')) :=
        below_setRow (((hb5.trans (hb8.mono (by omega))).trans (hb9.mono (by omega))).grown r2 (by omega) (fun k hk => by have := hlvlt k hk; omega)) (by omega) _
      generalize (w10.setRow (w.heap.size + 1) ((#[.int .i64 0, .slice none 0 0, .bool false, lv, .slice none 0 0] : Array Value).setIfInBounds 3 lv')) = w11 at *
      refine hQ' _ w11 lv' (by simp [size_put, y]) (by simp [defers_put, yd]) (by simp (disch := first | omega | (simp only [size_put]; omega)) [eval_tmp, eval_const, put_none, getT_put, getT_put_ne, y2]) (by simp (disch := first | omega | (simp only [size_put]; omega)) [eval_tmp, eval_const, put_none, getT_put, getT_put_ne, y3]) (by simp (disch := first | omega | (simp only [size_put]; omega)) [eval_tmp, eval_const, put_none, getT_put, getT_put_ne, y7]) (by simp (disch := first | omega | (simp only [size_put]; omega)) [eval_tmp, eval_const, put_none, getT_put, getT_put_ne, y8]) (by simp (disch := first | omega | (simp only [size_put]; omega)) [eval_tmp, eval_const, put_none, getT_put, getT_put_ne, y9]) ((hoth _ (by omega)).trans p2n) p3f ?_ hbf (by omega)
      refine ⟨rows ++ [[.int .i64 h.dflt, .slice none 0 0, .bool (decide (0 ≤ h.null)), ls, .slice none 0 0]], fun k => F k ∨ (w5.heap.size + 2 ≤ k ∧ k < w8.heap.size), ?_, by simp [o2], ?_, ?_, ?_⟩
      · rw [List.flatten_append]
        simp only [List.flatten_cons, List.flatten_nil, List.append_nil]
        refine ⟨r1.1, r1.2.imp id ?_⟩
        rintro ⟨g, cap, cur, m1, m2, m3, m4⟩
        exact ⟨g, cap, cur, m1, m2, by rw [hoth g (by omega)]; exact m3, m4⟩
      · intro r hr
        simp only [List.mem_append, List.mem_cons, List.not_mem_nil, or_false] at hr
        rcases hr with hr | rfl
        · exact o3 r hr
        · rfl
      · intro i r x hi hx
        rcases Nat.lt_or_ge i rows.length with hlt | hge
        · rw [List.getElem?_append_left hlt] at hi
          refine (o4 i r x hi hx).mono (fun k hk => .inl hk) (fun k hk => ?_)
          have := o5 k hk
          rw [hoth k (by omega), hk10 k (by omega) this.2.2]
        · have hij : i = rows.length := by
            have := (List.getElem?_eq_some_iff.1 hi).1
            simp at this
            omega
          subst hij
          rw [List.getElem?_append_right (Nat.le_refl _)] at hi
          simp at hi
          subst hi
          rw [o2, hdj] at hx
          cases hx
          refine htv.mono (fun k hk => .inr hk) (fun k hk => ?_)
          rw [hoth k (by omega), hk10 k (by omega) (fun e => by have := hlvlt k e; omega), hb9.block k (by omega)]
      · intro k hk
        have hk' : w.heap.size + 2 ≤ k ∧ k < w9.heap.size ∧ lv.ownBlock ≠ some k := by
          rcases hk with hk | hk
          · exact o5 k hk
          · exact ⟨by omega, by omega, fun e => by have := hlvlt k e; omega⟩
        refine ⟨hk'.1, by omega, fun e => ?_⟩
        rcases r3 with r3 | ⟨bb, r3, r4⟩
        · exact hk'.2.2 (r3 ▸ e)
        · rw [r3] at e
          cases e
          omega
    have ew : IntKind.i64.wrap ((j : Int) + 1) = ((j + 1 : Nat) : Int) := by rw [wrap_i64']; split <;> omega
    refine SC.wp_seq (SC.wp_seq (SC.wp_reg ?_))
    iterate 3 (first | (apply ops_1; (focus (simp (disch := first | omega | (simp only [size_put]; omega)) [qv, qcall, vop, iop, eval_tmp, eval_const, put_none, getT_put, getT_put_ne, hst, hc7, z5]; try rfl))) | (apply ops_y; (focus rfl); (focus (first | omega | (simp only [size_put]; omega))); (focus (simp (disch := first | omega | (simp only [size_put]; omega)) [put_none, getT_put, getT_put_ne, hst, hc7, z5]; done)); (focus (simp (disch := first | omega | (simp only [size_put]; omega)) [qv, qcall, vop, iop, eval_tmp, eval_const, put_none, getT_put, getT_put_ne, hst, hc7, z5]; try rfl))) | (apply ops_n; (focus rfl); (focus (first | omega | (simp only [size_put]; omega))); (focus (first | (left; simp (disch := first | omega | (simp only [size_put]; omega)) [put_none, getT_put, getT_put_ne, hst, hc7, z5]; done) | (right; simp (disch := first | omega | (simp only [size_put]; omega)) [put_none, getT_put, getT_put_ne]; done)))))
    refine ops_nil (SC.wp_cond (t := kindOf ty == 10) (by simp (disch := first | omega | (simp only [size_put]; omega)) [eval_tmp, eval_const, put_none, getT_put, getT_put_ne]) ?_)
    have htriv : (∀ typ size dflt tags fs', ty ≠ .struct typ size dflt tags fs') → TV G w7 (fun k => w5.heap.size + 2 ≤ k ∧ k < w7.heap.size) (defT h ty) (.agg #[.int .i64 h.dflt, .slice none 0 0, .bool (decide (0 ≤ h.null)), .slice none 0 0, .slice none 0 0]) := by
      intro hns
      have : defT h ty = .mk h.dflt [] (decide (0 ≤ h.null)) [] [] := by
        cases ty with
        | struct typ size dflt tags fs' => exact absurd rfl (hns typ size dflt tags fs')
        | prim k => simp [defT]
        | list _ _ _ _ => simp [defT]
      rw [this]
      exact .mk h.dflt [] _ [] [] none none none 0 0 0 0 0 (fun _ => []) (.inl ⟨rfl, rfl⟩) (Nat.le_refl _) (Nat.le_refl _) (Nat.le_refl _) (fun h => absurd rfl h) (fun i hi => by simp at hi) (fun i x hx => by simp at hx) h0G (.inl rfl)
    have close : ∀ (a' : Act) (w' : World) (lv' : Value) (Q1 : Exit → Act → World → Prop), a'.tmps.size = 35 → a'.defers = [] → getT a' 2 = .pointer (some ⟨w.heap.size, 0, none⟩) → getT a' 3 = .pointer (some ⟨w.heap.size + 1, 0, none⟩) → getT a' 7 = .slice (some ⟨b, o, none⟩) (Fs.len fs) fcap → getT a' 8 = .int .i64 (Fs.len fs : Int) → getT a' 9 = .int .i64 (j : Int) →
        w'.heap[w.heap.size]? = some (.cells #[.int .i64 0, .slice none 0 0, .bool false, .slice none 0 0, .slice none 0 0] X.T (0, 0)) → w'.heap[w.heap.size + 1]? = some (.cells #[.int .i64 0, .slice none 0 0, .bool false, lv', .slice none 0 0] X.T (0, 0)) → Rows G X fs w w' lv' (j + 1) → Below w.heap.size w w' → w.heap.size + 2 ≤ w'.heap.size →
        (∀ a'' w'', ((∃ (j : Nat) (lv : Value), a''.tmps.size = 35 ∧ a''.defers = [] ∧ getT a'' 2 = .pointer (some ⟨w.heap.size, 0, none⟩) ∧ getT a'' 3 = .pointer (some ⟨w.heap.size + 1, 0, none⟩) ∧ getT a'' 7 = .slice (some ⟨b, o, none⟩) (Fs.len fs) fcap ∧ getT a'' 8 = .int .i64 (Fs.len fs : Int) ∧ getT a'' 9 = .int .i64 (j : Int) ∧ j ≤ Fs.len fs ∧
          w''.heap[w.heap.size]? = some (.cells #[.int .i64 0, .slice none 0 0, .bool false, .slice none 0 0, .slice none 0 0] X.T (0, 0)) ∧ w''.heap[w.heap.size + 1]? = some (.cells #[.int .i64 0, .slice none 0 0, .bool false, lv, .slice none 0 0] X.T (0, 0)) ∧ Rows G X fs w w'' lv j ∧ Below w.heap.size w w'' ∧ w.heap.size + 2 ≤ w''.heap.size) ∧
          (match getT a'' 9 with | .int _ m => (Fs.len fs - m).toNat | _ => 0) < (match getT a4 9 with | .int _ m => (Fs.len fs - m).toNat | _ => 0)) → Q1 .normal a'' w'') →
        SC.wp P (.reg [⟨some 33, .binOp .add X.I (.tmp 9) (.const (.int .i64 1)) X.I, none⟩, mv 9 33]) Q1 a' w' := by
      intro a' w' lv' Q1 x xd x2 x3 x7 x8 x9 m2 m3 m4 m5 m6 hq
      refine SC.wp_reg ?_
      repeat (first | (apply ops_1; (focus (simp (disch := first | omega | (simp only [size_put]; omega)) [qv, qcall, vop, iop, eval_tmp, eval_const, put_none, getT_put, getT_put_ne, x9, ew]; try rfl))) | (apply ops_y; (focus rfl); (focus (first | omega | (simp only [size_put]; omega))); (focus (simp (disch := first | omega | (simp only [size_put]; omega)) [put_none, getT_put, getT_put_ne, x9, ew]; done)); (focus (simp (disch := first | omega | (simp only [size_put]; omega)) [qv, qcall, vop, iop, eval_tmp, eval_const, put_none, getT_put, getT_put_ne, x9, ew]; try rfl))) | (apply ops_n; (focus rfl); (focus (first | omega | (simp only [size_put]; omega))); (focus (first | (left; simp (disch := first | omega | (simp only [size_put]; omega)) [put_none, getT_put, getT_put_ne, x9, ew]; done) | (right; simp (disch := first | omega | (simp only [size_put]; omega)) [put_none, getT_put, getT_put_ne]; done)))))
      refine ops_nil (hq _ _ ⟨⟨j + 1, lv', by simp [size_put, x], by simp [defers_put, xd], by simp (disch := first | omega | (simp only [size_put]; omega)) [eval_tmp, eval_const, put_none, getT_put, getT_put_ne, x2], by simp (disch := first | omega | (simp only [size_put]; omega)) [eval_tmp, eval_const, put_none, getT_put, getT_put_ne, x3], by simp (disch := first | omega | (simp only [size_put]; omega)) [eval_tmp, eval_const, put_none, getT_put, getT_put_ne, x7], by simp (disch := first | omega | (simp only [size_put]; omega)) [eval_tmp, eval_const, put_none, getT_put, getT_put_ne, x8], by simp (disch := first | omega | (simp only [size_put]; omega)) [eval_tmp, eval_const, put_none, getT_put, getT_put_ne], by omega, m2, m3, m4, m5, m6⟩, ?_⟩)
      rw [q9]
      simp (disch := first | omega | (simp only [size_put]; omega)) [eval_tmp, eval_const, put_none, getT_put, getT_put_ne]; omega
    cases ty with
    | prim k =>
      have e10 : (kindOf (.prim k) == 10) = false := by cases k <;> rfl
      rw [e10, if_neg (by simp)]
      refine SC.wp_skip ?_
      simp only [Exit.then]
      refine tail _ w7 (.slice none 0 0) (by simp [size_put, z]) (by simp [defers_put, zd]) (by simp (disch := first | omega | (simp only [size_put]; omega)) [eval_tmp, eval_const, put_none, getT_put, getT_put_ne, z2]) (by simp (disch := first | omega | (simp only [size_put]; omega)) [eval_tmp, eval_const, put_none, getT_put, getT_put_ne, z3]) (by simp (disch := first | omega | (simp only [size_put]; omega)) [eval_tmp, eval_const, put_none, getT_put, getT_put_ne, z7]) (by simp (disch := first | omega | (simp only [size_put]; omega)) [eval_tmp, eval_const, put_none, getT_put, getT_put_ne, z8]) (by simp (disch := first | omega | (simp only [size_put]; omega)) [eval_tmp, eval_const, put_none, getT_put, getT_put_ne, z9]) (by simp (disch := first | omega | (simp only [size_put]; omega)) [eval_tmp, eval_const, put_none, getT_put, getT_put_ne, z6]) hnew7 hb57 (by omega) rfl (htriv (by intros; simp)) _ ?_
      intro a' w' lv' x xd x2 x3 x7 x8 x9 m2 m3 m4 m5 m6
      simp only [Exit.inBlock, Exit.then]
      exact close a' w' lv' _ x xd x2 x3 x7 x8 x9 m2 m3 m4 m5 m6 (fun a'' w'' h => h)
    | list typ el size of =>
      have e10 : (kindOf (.list typ el size of) == 10) = false := rfl
      rw [e10, if_neg (by simp)]
      refine SC.wp_skip ?_
      simp only [Exit.then]
      refine tail _ w7 (.slice none 0 0) (by simp [size_put, z]) (by simp [defers_put, zd]) (by simp (disch := first | omega | (simp only [size_put]; omega)) [eval_tmp, eval_const, put_none, getT_put, getT_put_ne, z2]) (by simp (disch := first | omega | (simp only [size_put]; omega)) [eval_tmp, eval_const, put_none, getT_put, getT_put_ne, z3]) (by simp (disch := first | omega | (simp only [size_put]; omega)) [eval_tmp, eval_const, put_none, getT_put, getT_put_ne, z7]) (by simp (disch := first | omega | (simp only [size_put]; omega)) [eval_tmp, eval_const, put_none, getT_put, getT_put_ne, z8]) (by simp (disch := first | omega | (simp only [size_put]; omega)) [eval_tmp, eval_const, put_none, getT_put, getT_put_ne, z9]) (by simp (disch := first | omega | (simp only [size_put]; omega)) [eval_tmp, eval_const, put_none, getT_put, getT_put_ne, z6]) hnew7 hb57 (by omega) rfl (htriv (by intros; simp)) _ ?_
      intro a' w' lv' x xd x2 x3 x7 x8 x9 m2 m3 m4 m5 m6
      simp only [Exit.inBlock, Exit.then]
      exact close a' w' lv' _ x xd x2 x3 x7 x8 x9 m2 m3 m4 m5 m6 (fun a'' w'' h => h)
    | struct typ size dflt tags fs' =>
      have e10 : (kindOf (.struct typ size dflt tags fs') == 10) = true := rfl
      rw [e10, if_pos rfl]
      simp only [SubD] at hcj
      simp only [SubV] at hsub
      refine SC.wp_reg ?_
      iterate 2 (first | (apply ops_1; (focus (simp (disch := first | omega | (simp only [size_put]; omega)) [qv, qcall, vop, iop, eval_tmp, eval_const, put_none, getT_put, getT_put_ne, hst, hc7, z5]; try rfl))) | (apply ops_y; (focus rfl); (focus (first | omega | (simp only [size_put]; omega))); (focus (simp (disch := first | omega | (simp only [size_put]; omega)) [put_none, getT_put, getT_put_ne, hst, hc7, z5]; done)); (focus (simp (disch := first | omega | (simp only [size_put]; omega)) [qv, qcall, vop, iop, eval_tmp, eval_const, put_none, getT_put, getT_put_ne, hst, hc7, z5]; try rfl))) | (apply ops_n; (focus rfl); (focus (first | omega | (simp only [size_put]; omega))); (focus (first | (left; simp (disch := first | omega | (simp only [size_put]; omega)) [put_none, getT_put, getT_put_ne, hst, hc7, z5]; done) | (right; simp (disch := first | omega | (simp only [size_put]; omega)) [put_none, getT_put, getT_put_ne]; done)))))
      have hbw7 : Below w.heap.size w w7 := hb5.trans (hb57.mono (by omega))
      refine ops_call oD (hcj.1 w7 sub (FsV.down hbw7 (by omega) hsub)) (by simp (disch := first | omega | (simp only [size_put]; omega)) [eval_tmp, eval_const, put_none, getT_put, getT_put_ne]) ?_
      rintro e w8 ⟨dv, rfl, htv, hb8⟩
      refine ⟨dv, rfl, ?_⟩
      have hs8 : w7.heap.size ≤ w8.heap.size := hb8.size
      cases htv with
      | mk _ _ _ _ _ sb lb ub sc lc uc tb to cs' t1 t2 t3 t4 t5 t6 t7 t8 t9 =>
      refine opsw_none rfl (opw_field3 hT (n := 0) (s := .slice sb (List.length ([] : Bytes)) sc) (b := false) (l := .slice lb (defL fs').length lc) (u := .slice ub 0 uc) (by simp (disch := first | omega | (simp only [size_put]; omega)) [eval_tmp, eval_const, put_none, getT_put, getT_put_ne]) rfl ?_)
      have hn8 : w8.heap[w5.heap.size + 1]? = _ := (hb8.block (w5.heap.size + 1) (by omega)).trans hnew7
      iterate 1 (first | (apply ops_1; (focus (simp (disch := first | omega | (simp only [size_put]; omega)) [qv, qcall, vop, iop, eval_tmp, eval_const, put_none, getT_put, getT_put_ne, hst, z6]; try rfl))) | (apply ops_y; (focus rfl); (focus (first | omega | (simp only [size_put]; omega))); (focus (simp (disch := first | omega | (simp only [size_put]; omega)) [put_none, getT_put, getT_put_ne, hst, z6]; done)); (focus (simp (disch := first | omega | (simp only [size_put]; omega)) [qv, qcall, vop, iop, eval_tmp, eval_const, put_none, getT_put, getT_put_ne, hst, z6]; try rfl))) | (apply ops_n; (focus rfl); (focus (first | omega | (simp only [size_put]; omega))); (focus (first | (left; simp (disch := first | omega | (simp only [size_put]; omega)) [put_none, getT_put, getT_put_ne, hst, z6]; done) | (right; simp (disch := first | omega | (simp only [size_put]; omega)) [put_none, getT_put, getT_put_ne]; done)))))
      refine opsw_none rfl (opw_store_one (ad := ⟨w5.heap.size + 1, 3, none⟩) (v := .slice lb (defL fs').length lc) (v0 := .slice none 0 0) hst.2.1.2.2.2.2.2.2.2.1 (by simp (disch := first | omega | (simp only [size_put]; omega)) [eval_tmp, eval_const, put_none, getT_put, getT_put_ne]) (by simp (disch := first | omega | (simp only [size_put]; omega)) [eval_tmp, eval_const, put_none, getT_put, getT_put_ne]) rfl (by rw [cell_of_row _ _ _ _ _ _ hn8]; rfl) (by simp [World.frozen?, hn8]) (ops_nil ?_))
      rw [setCell_eq_setRow _ _ _ _ _ _ _ hn8]
      have hn9 := setRow_heap w8 (w5.heap.size + 1) _ ((#[.int .i64 h.dflt, .slice none 0 0, .bool (decide (0 ≤ h.null)), .slice none 0 0, .slice none 0 0] : Array Value).setIfInBounds 3 (.slice lb (defL fs').length lc)) _ _ hn8
      have hoth : ∀ k, k ≠ w5.heap.size + 1 → (w8.setRow (w5.heap.size + 1) ((#[.int .i64 h.dflt, .slice none 0 0, .bool (decide (0 ≤ h.null)), .slice none 0 0, .slice none 0 0] : Array Value).setIfInBounds 3 (.slice lb (defL fs').length lc))).heap[k]? = w8.heap[k]? := fun k hk => setRow_other _ _ _ _ hk
      have hs9 : (w8.setRow (w5.heap.size + 1) ((#[.int .i64 h.dflt, .slice none 0 0, .bool (decide (0 ≤ h.null)), .slice none 0 0, .slice none 0 0] : Array Value).setIfInBounds 3 (.slice lb (defL fs').length lc))).heap.size = w8.heap.size := by simp
      have hb9 : Below w5.heap.size w5 (w8.setRow (w5.heap.size + 1) ((#[.int .i64 h.dflt, .slice none 0 0, .bool (decide (0 ≤ h.null)), .slice none 0 0, .slice none 0 0] : Array Value).setIfInBounds 3 (.slice lb (defL fs').length lc))) := below_setRow (hb57.trans (hb8.mono (by omega))) (by omega) _
      simp only [Exit.then, put_none]
      generalize (w8.setRow (w5.heap.size + 1) ((#[.int .i64 h.dflt, .slice none 0 0, .bool (decide (0 ≤ h.null)), .slice none 0 0, .slice none 0 0] : Array Value).setIfInBounds 3 (.slice lb (defL fs').length lc))) = w9 at *
      refine tail _ w9 (.slice lb (defL fs').length lc) (by simp [size_put, z]) (by simp [defers_put, zd]) (by simp (disch := first | omega | (simp only [size_put]; omega)) [eval_tmp, eval_const, put_none, getT_put, getT_put_ne, z2]) (by simp (disch := first | omega | (simp only [size_put]; omega)) [eval_tmp, eval_const, put_none, getT_put, getT_put_ne, z3]) (by simp (disch := first | omega | (simp only [size_put]; omega)) [eval_tmp, eval_const, put_none, getT_put, getT_put_ne, z7]) (by simp (disch := first | omega | (simp only [size_put]; omega)) [eval_tmp, eval_const, put_none, getT_put, getT_put_ne, z8]) (by simp (disch := first | omega | (simp only [size_put]; omega)) [eval_tmp, eval_const, put_none, getT_put, getT_put_ne, z9]) (by simp (disch := first | omega | (simp only [size_put]; omega)) [eval_tmp, eval_const, put_none, getT_put, getT_put_ne, z6]) hn9 hb9 (by omega) rfl ?_ _ ?_
      · simp only [defT]
        have hF : ∀ k, (w7.heap.size ≤ k ∧ k < w8.heap.size) → (w5.heap.size + 2 ≤ k ∧ k < w9.heap.size) := fun k hk => by omega
        have hW : ∀ k, (w7.heap.size ≤ k ∧ k < w8.heap.size) → w9.heap[k]? = w8.heap[k]? := fun k hk => hoth k (by omega)
        exact .mk h.dflt [] _ (defL fs') [] none lb none 0 lc 0 tb to cs' (.inl ⟨rfl, rfl⟩) (Nat.le_refl _) t3 (Nat.le_refl _) (fun hne => ⟨(t5 hne).1, hF _ (t5 hne).2⟩) (fun i hi => by
          have hne : defL fs' ≠ [] := by intro e; rw [e] at hi; simp at hi
          rw [rangeV_mono (hW tb (t5 hne).2)]
          exact t6 i hi) (fun i x hx => (t7 i x hx).mono hF hW) h0G (.inl rfl)
      intro a' w' lv' x xd x2 x3 x7 x8 x9 m2 m3 m4 m5 m6
      simp only [Exit.inBlock, Exit.then]
      exact close a' w' lv' _ x xd x2 x3 x7 x8 x9 m2 m3 m4 m5 m6 (fun a'' w'' h => h)
end
end Go.Proofs.Ytioodpjcpadkoaa.K
