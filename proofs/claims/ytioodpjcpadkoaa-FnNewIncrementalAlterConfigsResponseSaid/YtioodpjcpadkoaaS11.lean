/- The reference's functions 'known', 'part', 'Write'. No condition. -/
import Derived.Test.YtioodpjcpadkoaaS10
namespace Go.Proofs.Ytioodpjcpadkoaa.K
open Go Go.RowKit Go.Proofs.Ytioodpjcpadkoaa.T
set_option linter.unusedSimpArgs false
set_option linter.unusedVariables false
set_option maxHeartbeats 4000000

theorem insTag_length (t : Nat × Bytes) : ∀ l, (insTag t l).length ≤ l.length + 1
  | [] => by simp [insTag]
  | x :: r => by
    simp only [insTag]
    have := insTag_length t r
    split
    · simp; omega
    · split <;> simp
theorem foldl_ins_length : ∀ (l acc : List (Nat × Bytes)), (l.foldl (fun acc t => insTag t acc) acc).length ≤ l.length + acc.length
  | [], acc => by simp
  | x :: l, acc => by
    simp only [List.foldl_cons, List.length_cons]
    have h1 := foldl_ins_length l (insTag x acc)
    have h2 := insTag_length x acc
    omega
theorem unknown_length (u : List (Nat × Bytes)) : (unknown u).length ≤ most := by
  have h := foldl_ins_length (u.take most) []
  have h2 : (u.take most).length ≤ most := by rw [List.length_take]; omega
  unfold unknown
  simp only [List.length_nil] at h
  omega

section
variable {G : List (Nat × Bytes) → Prop} {P : Program} {X : STy} {f : FuncId} {fn : Func} {fW fTh fC fWi fF fU fHas fNull fAt fPart fVal fFld fKn fUs fUnk : FuncId}

theorem known_ok (hX : stOK P X = true) (hTF : arrB P X.F 8 = true) (hf : P.funcs[f]? = some fn) (hb : fn.body.map strip = some (sc_known X.Fs X.I X.F X.U32)) (hn : fn.ntmps = 23) (hr : fn.results = #[.tmp 2]) : KnownC P f := by
  intro w fs fv hfs hlen63
  have hst := st_facts hX
  obtain ⟨hTF1, iF, zF, hiF, hzF, hzFs⟩ := arr_of hTF
  obtain ⟨fb, fcap, rfl, hfs⟩ := hfs
  refine fn_calls hf hb hn (by simp) fun a0 hs hd ha => ?_
  have h0 := ha 0 _ rfl
  simp only [List.getElem_toArray, List.getElem_cons_zero, List.getElem_cons_succ] at h0
  refine SC.wp_seq (SC.wp_reg ?_)
  repeat (first | (apply ops_1; (focus (simp (disch := first | omega | (simp only [size_put]; omega)) [qv, qcall, vop, iop, eval_tmp, eval_const, put_none, getT_put, getT_put_ne]; try rfl))) | (apply ops_y; (focus rfl); (focus (first | omega | (simp only [size_put]; omega))); (focus (simp (disch := first | omega | (simp only [size_put]; omega)) [put_none, getT_put, getT_put_ne]; done)); (focus (simp (disch := first | omega | (simp only [size_put]; omega)) [qv, qcall, vop, iop, eval_tmp, eval_const, put_none, getT_put, getT_put_ne]; try rfl))) | (apply ops_n; (focus rfl); (focus (first | omega | (simp only [size_put]; omega))); (focus (first | (left; simp (disch := first | omega | (simp only [size_put]; omega)) [put_none, getT_put, getT_put_ne]; done) | (right; simp (disch := first | omega | (simp only [size_put]; omega)) [put_none, getT_put, getT_put_ne]; done)))))
  refine ops_nil (SC.wp_seq (SC.wp_reg ?_))
  repeat (first | (apply ops_1; (focus (simp (disch := first | omega | (simp only [size_put]; omega)) [qv, qcall, vop, iop, eval_tmp, eval_const, put_none, getT_put, getT_put_ne]; try rfl))) | (apply ops_y; (focus rfl); (focus (first | omega | (simp only [size_put]; omega))); (focus (simp (disch := first | omega | (simp only [size_put]; omega)) [put_none, getT_put, getT_put_ne]; done)); (focus (simp (disch := first | omega | (simp only [size_put]; omega)) [qv, qcall, vop, iop, eval_tmp, eval_const, put_none, getT_put, getT_put_ne]; try rfl))) | (apply ops_n; (focus rfl); (focus (first | omega | (simp only [size_put]; omega))); (focus (first | (left; simp (disch := first | omega | (simp only [size_put]; omega)) [put_none, getT_put, getT_put_ne]; done) | (right; simp (disch := first | omega | (simp only [size_put]; omega)) [put_none, getT_put, getT_put_ne]; done)))))
  refine ops_nil (SC.wp_seq (SC.wp_seq (SC.wp_reg ?_)))
  repeat (first | (apply ops_1; (focus (simp (disch := first | omega | (simp only [size_put]; omega)) [qv, qcall, vop, iop, eval_tmp, eval_const, put_none, getT_put, getT_put_ne, hst, h0]; try rfl))) | (apply ops_y; (focus rfl); (focus (first | omega | (simp only [size_put]; omega))); (focus (simp (disch := first | omega | (simp only [size_put]; omega)) [put_none, getT_put, getT_put_ne, hst, h0]; done)); (focus (simp (disch := first | omega | (simp only [size_put]; omega)) [qv, qcall, vop, iop, eval_tmp, eval_const, put_none, getT_put, getT_put_ne, hst, h0]; try rfl))) | (apply ops_n; (focus rfl); (focus (first | omega | (simp only [size_put]; omega))); (focus (first | (left; simp (disch := first | omega | (simp only [size_put]; omega)) [put_none, getT_put, getT_put_ne, hst, h0]; done) | (right; simp (disch := first | omega | (simp only [size_put]; omega)) [put_none, getT_put, getT_put_ne]; done)))))
  refine ops_nil ?_
  simp only [Exit.then]
  refine SC.wp_block (SC.wp_loop (fun a4 w5 => ∃ (j : Nat), a4.tmps.size = 23 ∧ a4.defers = [] ∧ getT a4 6 = .slice fb (Fs.len fs) fcap ∧ getT a4 7 = .int .i64 (Fs.len fs : Int) ∧ getT a4 8 = .int .i64 (j : Int) ∧ j ≤ Fs.len fs ∧ getT a4 3 = .int .u32 0 ∧ Below w.heap.size w w5)
    (fun a4 _ => match getT a4 8 with | .int _ m => (Fs.len fs - m).toNat | _ => 0) ⟨0, by simp [size_put, hs], by simp [defers_put, hd], by simp (disch := first | omega | (simp only [size_put]; omega)) [eval_tmp, eval_const, put_none, getT_put, getT_put_ne], by simp (disch := first | omega | (simp only [size_put]; omega)) [eval_tmp, eval_const, put_none, getT_put, getT_put_ne], by simp (disch := first | omega | (simp only [size_put]; omega)) [eval_tmp, eval_const, put_none, getT_put, getT_put_ne], by omega, by simp (disch := first | omega | (simp only [size_put]; omega)) [eval_tmp, eval_const, put_none, getT_put, getT_put_ne], Below.refl _ _⟩ ?_)
  rintro a4 w5 ⟨j, q, qd, q6, q7, q8, hj, q3, hb5⟩
  have hsz5 : w.heap.size ≤ w5.heap.size := hb5.size
  refine SC.wp_seq (SC.wp_reg ?_)
  repeat (first | (apply ops_1; (focus (simp (disch := first | omega | (simp only [size_put]; omega)) [qv, qcall, vop, iop, eval_tmp, eval_const, put_none, getT_put, getT_put_ne, hst, q7, q8]; try rfl))) | (apply ops_y; (focus rfl); (focus (first | omega | (simp only [size_put]; omega))); (focus (simp (disch := first | omega | (simp only [size_put]; omega)) [put_none, getT_put, getT_put_ne, hst, q7, q8]; done)); (focus (simp (disch := first | omega | (simp only [size_put]; omega)) [qv, qcall, vop, iop, eval_tmp, eval_const, put_none, getT_put, getT_put_ne, hst, q7, q8]; try rfl))) | (apply ops_n; (focus rfl); (focus (first | omega | (simp only [size_put]; omega))); (focus (first | (left; simp (disch := first | omega | (simp only [size_put]; omega)) [put_none, getT_put, getT_put_ne, hst, q7, q8]; done) | (right; simp (disch := first | omega | (simp only [size_put]; omega)) [put_none, getT_put, getT_put_ne]; done)))))
  refine ops_nil ?_
  simp only [Exit.then]
  refine SC.wp_seq (SC.wp_cond (t := decide ((j : Int) < (Fs.len fs : Int))) (by simp (disch := first | omega | (simp only [size_put]; omega)) [eval_tmp, eval_const, put_none, getT_put, getT_put_ne]) ?_)
  cases e1 : decide ((j : Int) < (Fs.len fs : Int))
  · rw [if_neg (by simp)]
    refine SC.wp_exit ?_
    simp only [Exit.then, Exit.inBlock, if_true]
    refine SC.wp_seq (SC.wp_reg ?_)
    repeat (first | (apply ops_1; (focus (simp (disch := first | omega | (simp only [size_put]; omega)) [qv, qcall, vop, iop, eval_tmp, eval_const, put_none, getT_put, getT_put_ne, q3]; try rfl))) | (apply ops_y; (focus rfl); (focus (first | omega | (simp only [size_put]; omega))); (focus (simp (disch := first | omega | (simp only [size_put]; omega)) [put_none, getT_put, getT_put_ne, q3]; done)); (focus (simp (disch := first | omega | (simp only [size_put]; omega)) [qv, qcall, vop, iop, eval_tmp, eval_const, put_none, getT_put, getT_put_ne, q3]; try rfl))) | (apply ops_n; (focus rfl); (focus (first | omega | (simp only [size_put]; omega))); (focus (first | (left; simp (disch := first | omega | (simp only [size_put]; omega)) [put_none, getT_put, getT_put_ne, q3]; done) | (right; simp (disch := first | omega | (simp only [size_put]; omega)) [put_none, getT_put, getT_put_ne]; done)))))
    refine ops_nil (SC.wp_ret (ret_tmp hr (by simp [defers_put, qd]) ⟨?_, hb5⟩))
    simp (disch := first | omega | (simp only [size_put]; omega)) [eval_tmp, eval_const, put_none, getT_put, getT_put_ne]
  · have hjl : j < Fs.len fs := by simp at e1; omega
    rw [if_pos rfl]
    refine SC.wp_skip ?_
    simp only [Exit.then]
    obtain ⟨h, ty, hdrop⟩ := drop_cons j fs hjl
    rcases hfs with hfs | ⟨b, o, rfl, hbF, hfs⟩
    · omega
    have hfj := fsAt_drop j fs b o hfs
    rw [hdrop] at hfj
    simp only [FsAt] at hfj
    obtain ⟨⟨of_, sub, hr8, h1c, hof, hsub⟩, _⟩ := hfj
    have hr8' := (rangeV_mono (w := w5) (hb5.block b hbF) 8 (o + j * 8)).trans hr8
    have ej : (0 : Int) ≤ (j : Int) ∧ (j : Int) < (Fs.len fs : Int) := by omega
    refine SC.wp_seq (SC.wp_block (SC.wp_seq (SC.wp_reg ?_)))
    iterate 2 (first | (apply ops_1; (focus (simp (disch := first | omega | (simp only [size_put]; omega)) [qv, qcall, vop, iop, eval_tmp, eval_const, put_none, getT_put, getT_put_ne, hst, q6, q8, ej, hr8', hjl]; try rfl))) | (apply ops_y; (focus rfl); (focus (first | omega | (simp only [size_put]; omega))); (focus (simp (disch := first | omega | (simp only [size_put]; omega)) [put_none, getT_put, getT_put_ne, hst, q6, q8, ej, hr8', hjl]; done)); (focus (simp (disch := first | omega | (simp only [size_put]; omega)) [qv, qcall, vop, iop, eval_tmp, eval_const, put_none, getT_put, getT_put_ne, hst, q6, q8, ej, hr8', hjl]; try rfl))) | (apply ops_n; (focus rfl); (focus (first | omega | (simp only [size_put]; omega))); (focus (first | (left; simp (disch := first | omega | (simp only [size_put]; omega)) [put_none, getT_put, getT_put_ne, hst, q6, q8, ej, hr8', hjl]; done) | (right; simp (disch := first | omega | (simp only [size_put]; omega)) [put_none, getT_put, getT_put_ne]; done)))))
    refine opsw_none rfl (opw_alloc hiF hzF ?_)
    refine opsw_none rfl (opw_store_agg (b := w5.heap.size) (cs := [.int .i64 (kindOf ty), .int .i64 h.from_, .int .i64 h.to, .int .i64 h.null, .int .i64 (-1), .int .i64 h.dflt, .int .i64 of_, sub]) hTF1 (by simp (disch := first | omega | (simp only [size_put]; omega)) [eval_tmp, eval_const, put_none, getT_put, getT_put_ne]) (by simp (disch := first | omega | (simp only [size_put]; omega)) [eval_tmp, eval_const, put_none, getT_put, getT_put_ne]) (heap_alloc_new w5 _) (by simp [hzFs]) (by
      intro v hv
      simp only [List.mem_cons, List.not_mem_nil, or_false] at hv
      rcases hv with rfl | rfl | rfl | rfl | rfl | rfl | rfl | rfl <;> first | rfl | exact h1c) (ops_nil ?_))
    have hnew : ((w5.alloc (.cells zF.cells X.F)).setRow w5.heap.size #[.int .i64 (kindOf ty), .int .i64 h.from_, .int .i64 h.to, .int .i64 h.null, .int .i64 (-1), .int .i64 h.dflt, .int .i64 of_, sub]).heap[w5.heap.size]? = some (.cells #[.int .i64 (kindOf ty), .int .i64 h.from_, .int .i64 h.to, .int .i64 h.null, .int .i64 (-1), .int .i64 h.dflt, .int .i64 of_, sub] X.F (0, 0)) := setRow_heap _ _ _ _ _ _ (heap_alloc_new w5 _)
    have hb6 : Below w5.heap.size w5 ((w5.alloc (.cells zF.cells X.F)).setRow w5.heap.size #[.int .i64 (kindOf ty), .int .i64 h.from_, .int .i64 h.to, .int .i64 h.null, .int .i64 (-1), .int .i64 h.dflt, .int .i64 of_, sub]) := below_setRow ((Below.refl _ _).alloc (Nat.le_refl _) _) (Nat.le_refl _) _
    simp only [Exit.then, put_none]
    generalize ((w5.alloc (.cells zF.cells X.F)).setRow w5.heap.size #[.int .i64 (kindOf ty), .int .i64 h.from_, .int .i64 h.to, .int .i64 h.null, .int .i64 (-1), .int .i64 h.dflt, .int .i64 of_, sub]) = w6 at *
    have hc6 : ∀ i, w6.cell? ⟨w5.heap.size, i, none⟩ = #[Value.int .i64 (kindOf ty), .int .i64 h.from_, .int .i64 h.to, .int .i64 h.null, .int .i64 (-1), .int .i64 h.dflt, .int .i64 of_, sub][i]? := fun i => cell_of_row _ _ _ _ _ _ hnew
    refine SC.wp_seq (SC.wp_reg ?_)
    repeat (first | (apply ops_1; (focus (simp (disch := first | omega | (simp only [size_put]; omega)) [qv, qcall, vop, iop, eval_tmp, eval_const, put_none, getT_put, getT_put_ne, hst, hc6]; try rfl))) | (apply ops_y; (focus rfl); (focus (first | omega | (simp only [size_put]; omega))); (focus (simp (disch := first | omega | (simp only [size_put]; omega)) [put_none, getT_put, getT_put_ne, hst, hc6]; done)); (focus (simp (disch := first | omega | (simp only [size_put]; omega)) [qv, qcall, vop, iop, eval_tmp, eval_const, put_none, getT_put, getT_put_ne, hst, hc6]; try rfl))) | (apply ops_n; (focus rfl); (focus (first | omega | (simp only [size_put]; omega))); (focus (first | (left; simp (disch := first | omega | (simp only [size_put]; omega)) [put_none, getT_put, getT_put_ne, hst, hc6]; done) | (right; simp (disch := first | omega | (simp only [size_put]; omega)) [put_none, getT_put, getT_put_ne]; done)))))
    refine ops_nil (SC.wp_cond (t := false) (by simp (disch := first | omega | (simp only [size_put]; omega)) [eval_tmp, eval_const, put_none, getT_put, getT_put_ne]) ?_)
    rw [if_neg (by simp)]
    refine SC.wp_skip ?_
    simp only [Exit.inBlock, Exit.then]
    have ew : IntKind.i64.wrap ((j : Int) + 1) = ((j + 1 : Nat) : Int) := by rw [wrap_i64']; split <;> omega
    refine SC.wp_reg ?_
    repeat (first | (apply ops_1; (focus (simp (disch := first | omega | (simp only [size_put]; omega)) [qv, qcall, vop, iop, eval_tmp, eval_const, put_none, getT_put, getT_put_ne, q8, ew]; try rfl))) | (apply ops_y; (focus rfl); (focus (first | omega | (simp only [size_put]; omega))); (focus (simp (disch := first | omega | (simp only [size_put]; omega)) [put_none, getT_put, getT_put_ne, q8, ew]; done)); (focus (simp (disch := first | omega | (simp only [size_put]; omega)) [qv, qcall, vop, iop, eval_tmp, eval_const, put_none, getT_put, getT_put_ne, q8, ew]; try rfl))) | (apply ops_n; (focus rfl); (focus (first | omega | (simp only [size_put]; omega))); (focus (first | (left; simp (disch := first | omega | (simp only [size_put]; omega)) [put_none, getT_put, getT_put_ne, q8, ew]; done) | (right; simp (disch := first | omega | (simp only [size_put]; omega)) [put_none, getT_put, getT_put_ne]; done)))))
    refine ops_nil ?_
    refine ⟨⟨j + 1, by simp [size_put, q], by simp [defers_put, qd], by simp (disch := first | omega | (simp only [size_put]; omega)) [eval_tmp, eval_const, put_none, getT_put, getT_put_ne, q6], by simp (disch := first | omega | (simp only [size_put]; omega)) [eval_tmp, eval_const, put_none, getT_put, getT_put_ne, q7], by simp (disch := first | omega | (simp only [size_put]; omega)) [eval_tmp, eval_const, put_none, getT_put, getT_put_ne], by omega, by simp (disch := first | omega | (simp only [size_put]; omega)) [eval_tmp, eval_const, put_none, getT_put, getT_put_ne, q3], hb5.trans (hb6.mono hsz5)⟩, ?_⟩
    rw [q8]
    simp (disch := first | omega | (simp only [size_put]; omega)) [eval_tmp, eval_const, put_none, getT_put, getT_put_ne]; omega

/-- no tags: nothing -/
theorem unkNil_ok (hX : stOK P X = true) (oK : FnOK P fKn) (cK : KnownC P fKn) (hf : P.funcs[f]? = some fn) (hb : fn.body.map strip = some (sc_unknown X.Tgs X.I X.Tg X.U32 fKn)) (hn : fn.ntmps = 85) (hr : fn.results = #[.tmp 4]) : UnkC (fun u => u = []) P f := by
  intro w fs fv ub u uc hfs hlen63 hG hu huc
  subst hG
  have hst := st_facts hX
  refine fn_calls hf hb hn (by simp) fun a0 hs hd ha => ?_
  have h0 := ha 0 _ rfl
  have h1 := ha 1 _ rfl
  simp only [List.getElem_toArray, List.getElem_cons_zero, List.getElem_cons_succ] at h0 h1
  refine SC.wp_seq (SC.wp_reg ?_)
  repeat (first | (apply ops_1; (focus (simp (disch := first | omega | (simp only [size_put]; omega)) [qv, qcall, vop, iop, eval_tmp, eval_const, put_none, getT_put, getT_put_ne]; try rfl))) | (apply ops_y; (focus rfl); (focus (first | omega | (simp only [size_put]; omega))); (focus (simp (disch := first | omega | (simp only [size_put]; omega)) [put_none, getT_put, getT_put_ne]; done)); (focus (simp (disch := first | omega | (simp only [size_put]; omega)) [qv, qcall, vop, iop, eval_tmp, eval_const, put_none, getT_put, getT_put_ne]; try rfl))) | (apply ops_n; (focus rfl); (focus (first | omega | (simp only [size_put]; omega))); (focus (first | (left; simp (disch := first | omega | (simp only [size_put]; omega)) [put_none, getT_put, getT_put_ne]; done) | (right; simp (disch := first | omega | (simp only [size_put]; omega)) [put_none, getT_put, getT_put_ne]; done)))))
  refine ops_nil (SC.wp_seq (SC.wp_reg ?_))
  iterate 1 (first | (apply ops_1; (focus (simp (disch := first | omega | (simp only [size_put]; omega)) [qv, qcall, vop, iop, eval_tmp, eval_const, put_none, getT_put, getT_put_ne, h0]; try rfl))) | (apply ops_y; (focus rfl); (focus (first | omega | (simp only [size_put]; omega))); (focus (simp (disch := first | omega | (simp only [size_put]; omega)) [put_none, getT_put, getT_put_ne, h0]; done)); (focus (simp (disch := first | omega | (simp only [size_put]; omega)) [qv, qcall, vop, iop, eval_tmp, eval_const, put_none, getT_put, getT_put_ne, h0]; try rfl))) | (apply ops_n; (focus rfl); (focus (first | omega | (simp only [size_put]; omega))); (focus (first | (left; simp (disch := first | omega | (simp only [size_put]; omega)) [put_none, getT_put, getT_put_ne, h0]; done) | (right; simp (disch := first | omega | (simp only [size_put]; omega)) [put_none, getT_put, getT_put_ne]; done)))))
  refine ops_call oK (cK w fs fv hfs hlen63) (by simp (disch := first | omega | (simp only [size_put]; omega)) [eval_tmp, eval_const, put_none, getT_put, getT_put_ne]) ?_
  rintro e w2 ⟨rfl, hb2⟩
  refine ⟨_, rfl, ?_⟩
  repeat (first | (apply ops_1; (focus (simp (disch := first | omega | (simp only [size_put]; omega)) [qv, qcall, vop, iop, eval_tmp, eval_const, put_none, getT_put, getT_put_ne]; try rfl))) | (apply ops_y; (focus rfl); (focus (first | omega | (simp only [size_put]; omega))); (focus (simp (disch := first | omega | (simp only [size_put]; omega)) [put_none, getT_put, getT_put_ne]; done)); (focus (simp (disch := first | omega | (simp only [size_put]; omega)) [qv, qcall, vop, iop, eval_tmp, eval_const, put_none, getT_put, getT_put_ne]; try rfl))) | (apply ops_n; (focus rfl); (focus (first | omega | (simp only [size_put]; omega))); (focus (first | (left; simp (disch := first | omega | (simp only [size_put]; omega)) [put_none, getT_put, getT_put_ne]; done) | (right; simp (disch := first | omega | (simp only [size_put]; omega)) [put_none, getT_put, getT_put_ne]; done)))))
  refine ops_nil (SC.wp_seq (SC.wp_reg ?_))
  repeat (first | (apply ops_1; (focus (simp (disch := first | omega | (simp only [size_put]; omega)) [qv, qcall, vop, iop, eval_tmp, eval_const, put_none, getT_put, getT_put_ne]; try rfl))) | (apply ops_y; (focus rfl); (focus (first | omega | (simp only [size_put]; omega))); (focus (simp (disch := first | omega | (simp only [size_put]; omega)) [put_none, getT_put, getT_put_ne]; done)); (focus (simp (disch := first | omega | (simp only [size_put]; omega)) [qv, qcall, vop, iop, eval_tmp, eval_const, put_none, getT_put, getT_put_ne]; try rfl))) | (apply ops_n; (focus rfl); (focus (first | omega | (simp only [size_put]; omega))); (focus (first | (left; simp (disch := first | omega | (simp only [size_put]; omega)) [put_none, getT_put, getT_put_ne]; done) | (right; simp (disch := first | omega | (simp only [size_put]; omega)) [put_none, getT_put, getT_put_ne]; done)))))
  refine ops_nil (SC.wp_seq (SC.wp_seq (SC.wp_reg ?_)))
  repeat (first | (apply ops_1; (focus (simp (disch := first | omega | (simp only [size_put]; omega)) [qv, qcall, vop, iop, eval_tmp, eval_const, put_none, getT_put, getT_put_ne, hst, h1]; try rfl))) | (apply ops_y; (focus rfl); (focus (first | omega | (simp only [size_put]; omega))); (focus (simp (disch := first | omega | (simp only [size_put]; omega)) [put_none, getT_put, getT_put_ne, hst, h1]; done)); (focus (simp (disch := first | omega | (simp only [size_put]; omega)) [qv, qcall, vop, iop, eval_tmp, eval_const, put_none, getT_put, getT_put_ne, hst, h1]; try rfl))) | (apply ops_n; (focus rfl); (focus (first | omega | (simp only [size_put]; omega))); (focus (first | (left; simp (disch := first | omega | (simp only [size_put]; omega)) [put_none, getT_put, getT_put_ne, hst, h1]; done) | (right; simp (disch := first | omega | (simp only [size_put]; omega)) [put_none, getT_put, getT_put_ne]; done)))))
  refine ops_nil ?_
  simp only [Exit.then]
  refine gen_act (fun a6 => a6.tmps.size = 85 ∧ a6.defers = [] ∧ getT a6 6 = .slice none 0 0 ∧ getT a6 18 = .int .i64 0 ∧ getT a6 19 = .int .i64 0)
    ⟨by simp [size_put, hs], by simp [defers_put, hd], by simp (disch := first | omega | (simp only [size_put]; omega)) [eval_tmp, eval_const, put_none, getT_put, getT_put_ne], by simp (disch := first | omega | (simp only [size_put]; omega)) [eval_tmp, eval_const, put_none, getT_put, getT_put_ne], by simp (disch := first | omega | (simp only [size_put]; omega)) [eval_tmp, eval_const, put_none, getT_put, getT_put_ne]⟩ ?_
  rintro a6 ⟨p, pd, p6, p18, p19⟩
  refine SC.wp_block (SC.wp_loop (fun a' w' => a' = a6 ∧ w' = w2) (fun _ _ => 0) ⟨rfl, rfl⟩ ?_)
  rintro _ _ ⟨rfl, rfl⟩
  refine SC.wp_seq (SC.wp_reg ?_)
  repeat (first | (apply ops_1; (focus (simp (disch := first | omega | (simp only [size_put]; omega)) [qv, qcall, vop, iop, eval_tmp, eval_const, put_none, getT_put, getT_put_ne, p18, p19]; try rfl))) | (apply ops_y; (focus rfl); (focus (first | omega | (simp only [size_put]; omega))); (focus (simp (disch := first | omega | (simp only [size_put]; omega)) [put_none, getT_put, getT_put_ne, p18, p19]; done)); (focus (simp (disch := first | omega | (simp only [size_put]; omega)) [qv, qcall, vop, iop, eval_tmp, eval_const, put_none, getT_put, getT_put_ne, p18, p19]; try rfl))) | (apply ops_n; (focus rfl); (focus (first | omega | (simp only [size_put]; omega))); (focus (first | (left; simp (disch := first | omega | (simp only [size_put]; omega)) [put_none, getT_put, getT_put_ne, p18, p19]; done) | (right; simp (disch := first | omega | (simp only [size_put]; omega)) [put_none, getT_put, getT_put_ne]; done)))))
  refine ops_nil ?_
  simp only [Exit.then]
  refine SC.wp_seq (SC.wp_cond (t := false) (by simp (disch := first | omega | (simp only [size_put]; omega)) [eval_tmp, eval_const, put_none, getT_put, getT_put_ne]) ?_)
  rw [if_neg (by simp)]
  refine SC.wp_exit ?_
  simp only [Exit.then, Exit.inBlock, if_true]
  refine SC.wp_seq (SC.wp_reg ?_)
  repeat (first | (apply ops_1; (focus (simp (disch := first | omega | (simp only [size_put]; omega)) [qv, qcall, vop, iop, eval_tmp, eval_const, put_none, getT_put, getT_put_ne, p6]; try rfl))) | (apply ops_y; (focus rfl); (focus (first | omega | (simp only [size_put]; omega))); (focus (simp (disch := first | omega | (simp only [size_put]; omega)) [put_none, getT_put, getT_put_ne, p6]; done)); (focus (simp (disch := first | omega | (simp only [size_put]; omega)) [qv, qcall, vop, iop, eval_tmp, eval_const, put_none, getT_put, getT_put_ne, p6]; try rfl))) | (apply ops_n; (focus rfl); (focus (first | omega | (simp only [size_put]; omega))); (focus (first | (left; simp (disch := first | omega | (simp only [size_put]; omega)) [put_none, getT_put, getT_put_ne, p6]; done) | (right; simp (disch := first | omega | (simp only [size_put]; omega)) [put_none, getT_put, getT_put_ne]; done)))))
  refine ops_nil (SC.wp_ret (ret_tmp hr (by simp [defers_put, pd]) ⟨none, 0, ?_, .inl rfl, hb2⟩))
  simp (disch := first | omega | (simp only [size_put]; omega)) [eval_tmp, eval_const, put_none, getT_put, getT_put_ne]
  rfl

theorem part_ok (hX : stOK P X = true) (hTF : arrB P X.F 8 = true) (hTg : arrB P X.Tg 2 = true) (S : SmallC P X fW fTh fC fWi fF fU fHas fNull fAt G) (hm : P.follows .mixedOrders = true) (oF : FnOK P fFld) (cFd : FieldC G P X fFld fPart)
    (oK : FnOK P fKn) (cK : KnownC P fKn) (oUnk : FnOK P fUnk) (cUnk : UnkC G P fUnk)
    (hf : P.funcs[f]? = some fn) (hb : fn.body.map strip = some (sc_part X.T X.Fs X.I X.F X.Bs X.B X.U32 X.U64 X.Tgs X.Tg fHas fAt fFld fKn fUs fU fUnk fW)) (hn : fn.ntmps = 132) (hr : fn.results = #[.tmp 8])
    (fs : Fs) (hlen63 : Fs.len fs < 4294967296) (cP : SubsC (PartC G P X fPart) fs) : PartC G P X f fs := by
  intro w fv ver flex tv t hfv ht hl
  have hst := st_facts hX
  have hU8s := hst.2.2.1.1
  have hlim : lim = 70368744177664 := rfl
  have hmost : most = 32767 := rfl
  refine fn_calls hf hb hn (by simp) fun a0 hs hd ha => ?_
  have h0 := ha 0 _ rfl
  have h1 := ha 1 _ rfl
  have h2 := ha 2 _ rfl
  have h3 := ha 3 _ rfl
  simp only [List.getElem_toArray, List.getElem_cons_zero, List.getElem_cons_succ] at h0 h1 h2 h3
  have ht0 := ht
  have hfv0 := hfv
  cases ht with
  | mk n s tnull l u sb lb ub sc lc uc b o cs hs1 hsc hlc huc hll hrr htt hG hu =>
  obtain ⟨fb, fcap, rfl, hfs⟩ := hfv
  refine SC.wp_seq (SC.wp_reg (ops_box (B := w.heap.size) (w0 := w) (by rw [eval_tmp, h3]; rfl) (Nat.le_refl _) (Below.refl _ _) fun w1 q1 q2 q3 hc q5 => ?_))
  repeat (first | (apply ops_1; (focus (simp (disch := first | omega | (simp only [size_put]; omega)) [qv, qcall, vop, iop, eval_tmp, eval_const, put_none, getT_put, getT_put_ne]; try rfl))) | (apply ops_y; (focus rfl); (focus (first | omega | (simp only [size_put]; omega))); (focus (simp (disch := first | omega | (simp only [size_put]; omega)) [put_none, getT_put, getT_put_ne]; done)); (focus (simp (disch := first | omega | (simp only [size_put]; omega)) [qv, qcall, vop, iop, eval_tmp, eval_const, put_none, getT_put, getT_put_ne]; try rfl))) | (apply ops_n; (focus rfl); (focus (first | omega | (simp only [size_put]; omega))); (focus (first | (left; simp (disch := first | omega | (simp only [size_put]; omega)) [put_none, getT_put, getT_put_ne]; done) | (right; simp (disch := first | omega | (simp only [size_put]; omega)) [put_none, getT_put, getT_put_ne]; done)))))
  refine ops_nil (SC.wp_seq (SC.wp_reg ?_))
  repeat (first | (apply ops_1; (focus (simp (disch := first | omega | (simp only [size_put]; omega)) [qv, qcall, vop, iop, eval_tmp, eval_const, put_none, getT_put, getT_put_ne]; try rfl))) | (apply ops_y; (focus rfl); (focus (first | omega | (simp only [size_put]; omega))); (focus (simp (disch := first | omega | (simp only [size_put]; omega)) [put_none, getT_put, getT_put_ne]; done)); (focus (simp (disch := first | omega | (simp only [size_put]; omega)) [qv, qcall, vop, iop, eval_tmp, eval_const, put_none, getT_put, getT_put_ne]; try rfl))) | (apply ops_n; (focus rfl); (focus (first | omega | (simp only [size_put]; omega))); (focus (first | (left; simp (disch := first | omega | (simp only [size_put]; omega)) [put_none, getT_put, getT_put_ne]; done) | (right; simp (disch := first | omega | (simp only [size_put]; omega)) [put_none, getT_put, getT_put_ne]; done)))))
  refine ops_nil (SC.wp_seq (SC.wp_reg ?_))
  repeat (first | (apply ops_1; (focus (simp (disch := first | omega | (simp only [size_put]; omega)) [qv, qcall, vop, iop, eval_tmp, eval_const, put_none, getT_put, getT_put_ne]; try rfl))) | (apply ops_y; (focus rfl); (focus (first | omega | (simp only [size_put]; omega))); (focus (simp (disch := first | omega | (simp only [size_put]; omega)) [put_none, getT_put, getT_put_ne]; done)); (focus (simp (disch := first | omega | (simp only [size_put]; omega)) [qv, qcall, vop, iop, eval_tmp, eval_const, put_none, getT_put, getT_put_ne]; try rfl))) | (apply ops_n; (focus rfl); (focus (first | omega | (simp only [size_put]; omega))); (focus (first | (left; simp (disch := first | omega | (simp only [size_put]; omega)) [put_none, getT_put, getT_put_ne]; done) | (right; simp (disch := first | omega | (simp only [size_put]; omega)) [put_none, getT_put, getT_put_ne]; done)))))
  refine ops_nil ?_
  simp only [Exit.then]
  clear q1 q5
  have hT5 : rangeV w1 w.heap.size 0 5 = some [.int .i64 n, .slice sb s.length sc, .bool tnull, .slice lb l.length lc, .slice ub u.length uc] := by simp [rangeV, hc]
  have hlF : (wFs ver flex fs (Tree.mk n s tnull l u).l).length ≤ lim := by rw [List.length_append] at hl; omega
  have fin : ∀ (a : Act) (w' : World) (v : Value) (out : Bytes), a.defers = [] → getT a 8 = v → Own X.U8 w' w.heap.size v out → Below w.heap.size w w' → out = wFs ver flex fs (Tree.mk n s tnull l u).l ++ wTags flex (Tree.mk n s tnull l u).u →
      bodyPost P fn (RetOwn X.U8 w (wFs ver flex fs (Tree.mk n s tnull l u).l ++ wTags flex (Tree.mk n s tnull l u).u)) .ret a w' := by
    intro a w' v out p1 p2 p3 p4 p5
    subst p5
    exact ret_tmp hr p1 ⟨v, by rw [p2], p3, p4⟩
  refine SC.wp_seq (fields_loop hX hTF S hm oF cFd (w := w) fs fb fcap cP hfs hlen63 ver flex _ n _ _ _ tnull ht0 q2 (by omega) hT5 (by simp [size_put, hs]) (by simp (disch := first | omega | (simp only [size_put]; omega)) [eval_tmp, eval_const, put_none, getT_put, getT_put_ne, h0]) (by simp (disch := first | omega | (simp only [size_put]; omega)) [eval_tmp, eval_const, put_none, getT_put, getT_put_ne, h1]) (by simp (disch := first | omega | (simp only [size_put]; omega)) [eval_tmp, eval_const, put_none, getT_put, getT_put_ne, h2]) (by simp (disch := first | omega | (simp only [size_put]; omega)) [eval_tmp, eval_const, put_none, getT_put, getT_put_ne]) (by simp (disch := first | omega | (simp only [size_put]; omega)) [eval_tmp, eval_const, put_none, getT_put, getT_put_ne]) hlF ?_)
  intro a2 w2 p pd ps po hb2
  have k0 : getT a2 0 = .slice fb (Fs.len fs) fcap := by rw [ps 0 (by decide) (by decide)]; simp (disch := first | omega | (simp only [size_put]; omega)) [eval_tmp, eval_const, put_none, getT_put, getT_put_ne, h0]
  have k2 : getT a2 2 = .bool flex := by rw [ps 2 (by decide) (by decide)]; simp (disch := first | omega | (simp only [size_put]; omega)) [eval_tmp, eval_const, put_none, getT_put, getT_put_ne, h2]
  have k7 : getT a2 7 = .pointer (some ⟨w.heap.size, 0, none⟩) := by rw [ps 7 (by decide) (by decide)]; simp (disch := first | omega | (simp only [size_put]; omega)) [eval_tmp, eval_const, put_none, getT_put, getT_put_ne]
  have k10 : getT a2 10 = .slice none 0 0 := by rw [ps 10 (by decide) (by decide)]; simp (disch := first | omega | (simp only [size_put]; omega)) [eval_tmp, eval_const, put_none, getT_put, getT_put_ne]
  have k11 : getT a2 11 = .int .i64 0 := by rw [ps 11 (by decide) (by decide)]; simp (disch := first | omega | (simp only [size_put]; omega)) [eval_tmp, eval_const, put_none, getT_put, getT_put_ne]
  have pd2 : a2.defers = [] := by rw [pd]; simp [defers_put, hd]
  have hsz2 : w.heap.size + 1 ≤ w2.heap.size := by have := hb2.size; omega
  have hbw2 : Below w.heap.size w w2 := q2.trans (hb2.mono (by omega))
  clear ps pd hs hd h0 h1 h2 h3 ha
  simp only [Exit.then]
  refine SC.wp_seq (SC.wp_seq (SC.wp_reg ?_))
  repeat (first | (apply ops_1; (focus (simp (disch := first | omega | (simp only [size_put]; omega)) [qv, qcall, vop, iop, eval_tmp, eval_const, put_none, getT_put, getT_put_ne, k2]; try rfl))) | (apply ops_y; (focus rfl); (focus (first | omega | (simp only [size_put]; omega))); (focus (simp (disch := first | omega | (simp only [size_put]; omega)) [put_none, getT_put, getT_put_ne, k2]; done)); (focus (simp (disch := first | omega | (simp only [size_put]; omega)) [qv, qcall, vop, iop, eval_tmp, eval_const, put_none, getT_put, getT_put_ne, k2]; try rfl))) | (apply ops_n; (focus rfl); (focus (first | omega | (simp only [size_put]; omega))); (focus (first | (left; simp (disch := first | omega | (simp only [size_put]; omega)) [put_none, getT_put, getT_put_ne, k2]; done) | (right; simp (disch := first | omega | (simp only [size_put]; omega)) [put_none, getT_put, getT_put_ne]; done)))))
  refine ops_nil ?_
  simp only [Exit.then]
  refine SC.wp_cond (t := !flex) (by simp (disch := first | omega | (simp only [size_put]; omega)) [eval_tmp, eval_const, put_none, getT_put, getT_put_ne]) ?_
  cases flex
  · rw [if_pos (by rfl)]
    refine SC.wp_seq (SC.wp_reg ?_)
    repeat (first | (apply ops_1; (focus (simp (disch := first | omega | (simp only [size_put]; omega)) [qv, qcall, vop, iop, eval_tmp, eval_const, put_none, getT_put, getT_put_ne]; try rfl))) | (apply ops_y; (focus rfl); (focus (first | omega | (simp only [size_put]; omega))); (focus (simp (disch := first | omega | (simp only [size_put]; omega)) [put_none, getT_put, getT_put_ne]; done)); (focus (simp (disch := first | omega | (simp only [size_put]; omega)) [qv, qcall, vop, iop, eval_tmp, eval_const, put_none, getT_put, getT_put_ne]; try rfl))) | (apply ops_n; (focus rfl); (focus (first | omega | (simp only [size_put]; omega))); (focus (first | (left; simp (disch := first | omega | (simp only [size_put]; omega)) [put_none, getT_put, getT_put_ne]; done) | (right; simp (disch := first | omega | (simp only [size_put]; omega)) [put_none, getT_put, getT_put_ne]; done)))))
    refine ops_nil (SC.wp_ret ?_)
    simp only [Exit.then]
    refine fin _ _ (getT a2 9) _ (by simp [defers_put, pd2]) (by simp (disch := first | omega | (simp only [size_put]; omega)) [eval_tmp, eval_const, put_none, getT_put, getT_put_ne]) (own_down po (by omega)) hbw2 (by simp [wTags])
  · rw [if_neg (by simp)]
    refine SC.wp_skip ?_
    simp only [Exit.then]
    refine SC.wp_seq (SC.wp_seq (SC.wp_reg ?_))
    iterate 1 (first | (apply ops_1; (focus (simp (disch := first | omega | (simp only [size_put]; omega)) [qv, qcall, vop, iop, eval_tmp, eval_const, put_none, getT_put, getT_put_ne, k0]; try rfl))) | (apply ops_y; (focus rfl); (focus (first | omega | (simp only [size_put]; omega))); (focus (simp (disch := first | omega | (simp only [size_put]; omega)) [put_none, getT_put, getT_put_ne, k0]; done)); (focus (simp (disch := first | omega | (simp only [size_put]; omega)) [qv, qcall, vop, iop, eval_tmp, eval_const, put_none, getT_put, getT_put_ne, k0]; try rfl))) | (apply ops_n; (focus rfl); (focus (first | omega | (simp only [size_put]; omega))); (focus (first | (left; simp (disch := first | omega | (simp only [size_put]; omega)) [put_none, getT_put, getT_put_ne, k0]; done) | (right; simp (disch := first | omega | (simp only [size_put]; omega)) [put_none, getT_put, getT_put_ne]; done)))))
    refine ops_call oK (cK w2 fs _ (FsV.down hbw2 (by omega) hfv0) hlen63) (by simp (disch := first | omega | (simp only [size_put]; omega)) [eval_tmp, eval_const, put_none, getT_put, getT_put_ne]) ?_
    rintro e w3 ⟨rfl, hb3⟩
    refine ⟨_, rfl, ?_⟩
    have ew0 : IntKind.i64.wrap 0 = 0 := rfl
    repeat (first | (apply ops_1; (focus (simp (disch := first | omega | (simp only [size_put]; omega)) [qv, qcall, vop, iop, eval_tmp, eval_const, put_none, getT_put, getT_put_ne, hst, ew0]; try rfl))) | (apply ops_y; (focus rfl); (focus (first | omega | (simp only [size_put]; omega))); (focus (simp (disch := first | omega | (simp only [size_put]; omega)) [put_none, getT_put, getT_put_ne, hst, ew0]; done)); (focus (simp (disch := first | omega | (simp only [size_put]; omega)) [qv, qcall, vop, iop, eval_tmp, eval_const, put_none, getT_put, getT_put_ne, hst, ew0]; try rfl))) | (apply ops_n; (focus rfl); (focus (first | omega | (simp only [size_put]; omega))); (focus (first | (left; simp (disch := first | omega | (simp only [size_put]; omega)) [put_none, getT_put, getT_put_ne, hst, ew0]; done) | (right; simp (disch := first | omega | (simp only [size_put]; omega)) [put_none, getT_put, getT_put_ne]; done)))))
    refine ops_nil ?_
    simp only [Exit.then]
    refine gen_act (fun a6 => a6.tmps.size = 132 ∧ a6.defers = [] ∧ getT a6 0 = .slice fb (Fs.len fs) fcap ∧ getT a6 7 = .pointer (some ⟨w.heap.size, 0, none⟩) ∧ getT a6 9 = getT a2 9 ∧ getT a6 10 = .slice none 0 0 ∧ getT a6 11 = .int .i64 0 ∧ getT a6 51 = .int .i64 0 ∧ getT a6 52 = .int .i64 0)
      ⟨by simp [size_put, p], by simp [defers_put, pd2], by simp (disch := first | omega | (simp only [size_put]; omega)) [eval_tmp, eval_const, put_none, getT_put, getT_put_ne, k0], by simp (disch := first | omega | (simp only [size_put]; omega)) [eval_tmp, eval_const, put_none, getT_put, getT_put_ne, k7], by simp (disch := first | omega | (simp only [size_put]; omega)) [eval_tmp, eval_const, put_none, getT_put, getT_put_ne], by simp (disch := first | omega | (simp only [size_put]; omega)) [eval_tmp, eval_const, put_none, getT_put, getT_put_ne, k10], by simp (disch := first | omega | (simp only [size_put]; omega)) [eval_tmp, eval_const, put_none, getT_put, getT_put_ne, k11], by simp (disch := first | omega | (simp only [size_put]; omega)) [eval_tmp, eval_const, put_none, getT_put, getT_put_ne], by simp (disch := first | omega | (simp only [size_put]; omega)) [eval_tmp, eval_const, put_none, getT_put, getT_put_ne]⟩ ?_
    rintro a6 ⟨z, zd, z0, z7, z9, z10, z11, z51, z52⟩
    refine SC.wp_block (SC.wp_loop (fun a' w' => a' = a6 ∧ w' = w3) (fun _ _ => 0) ⟨rfl, rfl⟩ ?_)
    rintro _ _ ⟨rfl, rfl⟩
    rename_i a6 w3
    refine SC.wp_seq (SC.wp_reg ?_)
    repeat (first | (apply ops_1; (focus (simp (disch := first | omega | (simp only [size_put]; omega)) [qv, qcall, vop, iop, eval_tmp, eval_const, put_none, getT_put, getT_put_ne, z51, z52]; try rfl))) | (apply ops_y; (focus rfl); (focus (first | omega | (simp only [size_put]; omega))); (focus (simp (disch := first | omega | (simp only [size_put]; omega)) [put_none, getT_put, getT_put_ne, z51, z52]; done)); (focus (simp (disch := first | omega | (simp only [size_put]; omega)) [qv, qcall, vop, iop, eval_tmp, eval_const, put_none, getT_put, getT_put_ne, z51, z52]; try rfl))) | (apply ops_n; (focus rfl); (focus (first | omega | (simp only [size_put]; omega))); (focus (first | (left; simp (disch := first | omega | (simp only [size_put]; omega)) [put_none, getT_put, getT_put_ne, z51, z52]; done) | (right; simp (disch := first | omega | (simp only [size_put]; omega)) [put_none, getT_put, getT_put_ne]; done)))))
    refine ops_nil ?_
    simp only [Exit.then]
    refine SC.wp_seq (SC.wp_cond (t := false) (by simp (disch := first | omega | (simp only [size_put]; omega)) [eval_tmp, eval_const, put_none, getT_put, getT_put_ne]) ?_)
    rw [if_neg (by simp)]
    refine SC.wp_exit ?_
    simp only [Exit.then, Exit.inBlock, if_true]
    have hsz3 : w2.heap.size ≤ w3.heap.size := hb3.size
    have hbw3 : Below w.heap.size w w3 := hbw2.trans (hb3.mono (by omega))
    have hc3 : ∀ j, w3.cell? ⟨w.heap.size, j, none⟩ = #[Value.int .i64 n, .slice sb s.length sc, .bool tnull, .slice lb l.length lc, .slice ub u.length uc][j]? := fun j =>
      (World.cell?_of_block (w := w1) (w' := w3) (a := ⟨w.heap.size, j, none⟩) ((hb3.block w.heap.size (by omega)).trans (hb2.block w.heap.size (by omega)))).trans (hc j)
    have hul := unknown_length u
    have htl : ((unknown u).flatMap wTag).length ≤ lim ∧ (wFs ver true fs l).length + ((uvarint (unknown u).length).length + ((unknown u).flatMap wTag).length) ≤ lim := by
      simp only [wTags, if_true, List.length_append, Tree.l, Tree.u] at hl
      omega
    refine SC.wp_seq (tags_loop hX hTg S oUnk cUnk fs _ (FsV.down hbw3 (by omega) hfv0) hlen63 w.heap.size (by omega) n _ _ tnull ub u uc huc hG (tagsAt_mono hu (fun k hk => by have : k < w.heap.size := hk; show k < w3.heap.size; omega) (fun k hk => hbw3.block k hk)) hc3 (by simp [size_put, z]) (by simp (disch := first | omega | (simp only [size_put]; omega)) [eval_tmp, eval_const, put_none, getT_put, getT_put_ne, z0]) (by simp (disch := first | omega | (simp only [size_put]; omega)) [eval_tmp, eval_const, put_none, getT_put, getT_put_ne, z7]) (by simp (disch := first | omega | (simp only [size_put]; omega)) [eval_tmp, eval_const, put_none, getT_put, getT_put_ne, z10]) (by simp (disch := first | omega | (simp only [size_put]; omega)) [eval_tmp, eval_const, put_none, getT_put, getT_put_ne, z11]) htl.1 hul ?_)
    intro a7 w4 y yd ys yo y11 hb4
    have y9 : getT a7 9 = getT a2 9 := by rw [ys 9 (by decide)]; simp (disch := first | omega | (simp only [size_put]; omega)) [eval_tmp, eval_const, put_none, getT_put, getT_put_ne, z9]
    have yd2 : a7.defers = [] := by rw [yd]; simp [defers_put, zd]
    have hsz4 : w3.heap.size ≤ w4.heap.size := hb4.size
    simp only [Exit.then]
    have eu : ((unknown u).length : Int) % 18446744073709551616 = ((unknown u).length : Int) := by omega
    refine SC.wp_seq (SC.wp_reg ?_)
    iterate 3 (first | (apply ops_1; (focus (simp (disch := first | omega | (simp only [size_put]; omega)) [qv, qcall, vop, iop, eval_tmp, eval_const, put_none, getT_put, getT_put_ne, hst, y9, y11, wrap_u64, eu]; try rfl))) | (apply ops_y; (focus rfl); (focus (first | omega | (simp only [size_put]; omega))); (focus (simp (disch := first | omega | (simp only [size_put]; omega)) [put_none, getT_put, getT_put_ne, hst, y9, y11, wrap_u64, eu]; done)); (focus (simp (disch := first | omega | (simp only [size_put]; omega)) [qv, qcall, vop, iop, eval_tmp, eval_const, put_none, getT_put, getT_put_ne, hst, y9, y11, wrap_u64, eu]; try rfl))) | (apply ops_n; (focus rfl); (focus (first | omega | (simp only [size_put]; omega))); (focus (first | (left; simp (disch := first | omega | (simp only [size_put]; omega)) [put_none, getT_put, getT_put_ne, hst, y9, y11, wrap_u64, eu]; done) | (right; simp (disch := first | omega | (simp only [size_put]; omega)) [put_none, getT_put, getT_put_ne]; done)))))
    refine ops_call S.oU (S.cU w4 (unknown u).length (by omega)) (by simp (disch := first | omega | (simp only [size_put]; omega)) [eval_tmp, eval_const, put_none, getT_put, getT_put_ne]) ?_
    rintro e w5 ⟨v1, rfl, o1, b1⟩
    refine ⟨v1, rfl, ?_⟩
    have hsz5 : w4.heap.size ≤ w5.heap.size := b1.size
    have hb25 : Below w2.heap.size w2 w5 := hb3.trans ((hb4.mono hsz3).trans (b1.mono (by omega)))
    have po5 : Own X.U8 w5 (w.heap.size + 1) (getT a2 9) (wFs ver true fs l) := own_keep po hb25
    refine opsw_none rfl (opw_appendU8 (B := w.heap.size + 1) (dv := getT a2 9) (xv := v1) (xs := wFs ver true fs l) (bs := uvarint (unknown u).length) hU8s (by simp (disch := first | omega | (simp only [size_put]; omega)) [eval_tmp, eval_const, put_none, getT_put, getT_put_ne]) (by simp (disch := first | omega | (simp only [size_put]; omega)) [eval_tmp, eval_const, put_none, getT_put, getT_put_ne]) rfl po5 (by omega) (src_own hU8s o1) (by omega) ?_)
    intro v2 w6 o2 b2 s6 g6
    have yo5 := own_keep yo b1
    have yo6 : Own X.U8 w6 w3.heap.size (getT a7 10) ((unknown u).flatMap wTag) := own_same yo5 (fun k hk => by
      have h1 := own_lt yo5 k hk
      refine g6.block k h1.2 (fun e => ?_)
      have h2 := own_lt po k e.symm
      omega)
    iterate 1 (first | (apply ops_1; (focus (simp (disch := first | omega | (simp only [size_put]; omega)) [qv, qcall, vop, iop, eval_tmp, eval_const, put_none, getT_put, getT_put_ne]; try rfl))) | (apply ops_y; (focus rfl); (focus (first | omega | (simp only [size_put]; omega))); (focus (simp (disch := first | omega | (simp only [size_put]; omega)) [put_none, getT_put, getT_put_ne]; done)); (focus (simp (disch := first | omega | (simp only [size_put]; omega)) [qv, qcall, vop, iop, eval_tmp, eval_const, put_none, getT_put, getT_put_ne]; try rfl))) | (apply ops_n; (focus rfl); (focus (first | omega | (simp only [size_put]; omega))); (focus (first | (left; simp (disch := first | omega | (simp only [size_put]; omega)) [put_none, getT_put, getT_put_ne]; done) | (right; simp (disch := first | omega | (simp only [size_put]; omega)) [put_none, getT_put, getT_put_ne]; done)))))
    refine opsw_none rfl (opw_appendU8 (B := w.heap.size + 1) (dv := v2) (xv := getT a7 10) (xs := wFs ver true fs l ++ uvarint (unknown u).length) (bs := (unknown u).flatMap wTag) hU8s (by simp (disch := first | omega | (simp only [size_put]; omega)) [eval_tmp, eval_const, put_none, getT_put, getT_put_ne]) (by simp (disch := first | omega | (simp only [size_put]; omega)) [eval_tmp, eval_const, put_none, getT_put, getT_put_ne]) rfl o2 s6 (src_own hU8s yo6) (by rw [List.length_append]; omega) ?_)
    intro v3 w7 o3 b3 s7 _
    repeat (first | (apply ops_1; (focus (simp (disch := first | omega | (simp only [size_put]; omega)) [qv, qcall, vop, iop, eval_tmp, eval_const, put_none, getT_put, getT_put_ne]; try rfl))) | (apply ops_y; (focus rfl); (focus (first | omega | (simp only [size_put]; omega))); (focus (simp (disch := first | omega | (simp only [size_put]; omega)) [put_none, getT_put, getT_put_ne]; done)); (focus (simp (disch := first | omega | (simp only [size_put]; omega)) [qv, qcall, vop, iop, eval_tmp, eval_const, put_none, getT_put, getT_put_ne]; try rfl))) | (apply ops_n; (focus rfl); (focus (first | omega | (simp only [size_put]; omega))); (focus (first | (left; simp (disch := first | omega | (simp only [size_put]; omega)) [put_none, getT_put, getT_put_ne]; done) | (right; simp (disch := first | omega | (simp only [size_put]; omega)) [put_none, getT_put, getT_put_ne]; done)))))
    refine ops_nil (SC.wp_ret ?_)
    try simp only [Exit.then]
    refine fin _ _ v3 _ (by simp [defers_put, yd2]) (by simp (disch := first | omega | (simp only [size_put]; omega)) [eval_tmp, eval_const, put_none, getT_put, getT_put_ne]) (own_down o3 (by omega)) (hbw2.trans ((hb25.mono (by omega)).trans ((b2.mono (by omega)).trans (b3.mono (by omega))))) (by simp [wTags, Tree.l, Tree.u])
end
end Go.Proofs.Ytioodpjcpadkoaa.K
