/- The reference's functions on numbers and counts, further. No condition. -/
import Derived.Test.YtioodpjcpadkoaaS4
namespace Go.Proofs.Ytioodpjcpadkoaa.K
open Go Go.RowKit Go.Proofs.Ytioodpjcpadkoaa.T
set_option linter.unusedSimpArgs false
set_option linter.unusedVariables false
set_option maxHeartbeats 1000000

section
variable {P : Program} {X : STy} {f : FuncId} {fn : Func}

theorem fixed_length (n : Int) : ∀ k, (fixed n k).length = k
  | 0 => rfl
  | k + 1 => by rw [fixed, List.length_cons, fixed_length n k]

theorem sFixed_ok (hX : stOK P X = true) (hf : P.funcs[f]? = some fn) (hb : fn.body.map strip = some (sc_Fixed X.I X.I64 X.U8 X.Bs)) (hn : fn.ntmps = 22) (hr : fn.results = #[.tmp 4])
    (w : World) (n : Int) (size : Nat) (hs8 : size ≤ 8) : Calls P f #[.int .i64 n, .int .i64 (size : Int)] w (RetOwn X.U8 w (fixed n size)) := by
  have hst := st_facts hX
  have hU8s := hst.2.2.1.1
  refine fn_calls hf hb hn (by simp) fun a0 hs hd ha => ?_
  have h0 := ha 0 _ rfl
  have h1 := ha 1 _ rfl
  simp only [List.getElem_toArray, List.getElem_cons_zero, List.getElem_cons_succ] at h0 h1
  have hlim : lim = 70368744177664 := rfl
  have ew : IntKind.i64.wrap ((size : Int) - 1) = (size : Int) - 1 := by rw [wrap_i64']; split <;> omega
  refine SC.wp_seq (SC.wp_reg ?_)
  repeat (first | (apply ops_1; (focus (simp (disch := first | omega | (simp only [size_put]; omega)) [qv, qcall, vop, iop, eval_tmp, eval_const, getT_put, getT_put_ne]; try rfl))) | (apply ops_y; (focus rfl); (focus (first | omega | (simp only [size_put]; omega))); (focus (simp (disch := first | omega | (simp only [size_put]; omega)) [getT_put, getT_put_ne]; done)); (focus (simp (disch := first | omega | (simp only [size_put]; omega)) [qv, qcall, vop, iop, eval_tmp, eval_const, getT_put, getT_put_ne]; try rfl))) | (apply ops_n; (focus rfl); (focus (first | omega | (simp only [size_put]; omega))); (focus (first | (left; simp (disch := first | omega | (simp only [size_put]; omega)) [getT_put, getT_put_ne]; done) | (right; simp (disch := first | omega | (simp only [size_put]; omega)) [getT_put, getT_put_ne]; done)))))
  refine ops_nil (SC.wp_seq (SC.wp_reg ?_))
  repeat (first | (apply ops_1; (focus (simp (disch := first | omega | (simp only [size_put]; omega)) [qv, qcall, vop, iop, eval_tmp, eval_const, getT_put, getT_put_ne]; try rfl))) | (apply ops_y; (focus rfl); (focus (first | omega | (simp only [size_put]; omega))); (focus (simp (disch := first | omega | (simp only [size_put]; omega)) [getT_put, getT_put_ne]; done)); (focus (simp (disch := first | omega | (simp only [size_put]; omega)) [qv, qcall, vop, iop, eval_tmp, eval_const, getT_put, getT_put_ne]; try rfl))) | (apply ops_n; (focus rfl); (focus (first | omega | (simp only [size_put]; omega))); (focus (first | (left; simp (disch := first | omega | (simp only [size_put]; omega)) [getT_put, getT_put_ne]; done) | (right; simp (disch := first | omega | (simp only [size_put]; omega)) [getT_put, getT_put_ne]; done)))))
  refine ops_nil (SC.wp_seq (SC.wp_seq (SC.wp_reg ?_)))
  repeat (first | (apply ops_1; (focus (simp (disch := first | omega | (simp only [size_put]; omega)) [qv, qcall, vop, iop, eval_tmp, eval_const, getT_put, getT_put_ne, h1, ew]; try rfl))) | (apply ops_y; (focus rfl); (focus (first | omega | (simp only [size_put]; omega))); (focus (simp (disch := first | omega | (simp only [size_put]; omega)) [getT_put, getT_put_ne, h1, ew]; done)); (focus (simp (disch := first | omega | (simp only [size_put]; omega)) [qv, qcall, vop, iop, eval_tmp, eval_const, getT_put, getT_put_ne, h1, ew]; try rfl))) | (apply ops_n; (focus rfl); (focus (first | omega | (simp only [size_put]; omega))); (focus (first | (left; simp (disch := first | omega | (simp only [size_put]; omega)) [getT_put, getT_put_ne, h1, ew]; done) | (right; simp (disch := first | omega | (simp only [size_put]; omega)) [getT_put, getT_put_ne]; done)))))
  refine ops_nil (SC.wp_block ?_)
  refine SC.wp_loop (fun a w1 => ∃ (j : Nat) (xs : Bytes), a.tmps.size = 22 ∧ a.defers = [] ∧ getT a 0 = .int .i64 n ∧ getT a 6 = .int .i64 ((j : Int) - 1) ∧ j ≤ size ∧ Own X.U8 w1 w.heap.size (getT a 5) xs ∧ xs ++ fixed n j = fixed n size ∧ Below w.heap.size w w1 ∧ w.heap.size ≤ w1.heap.size)
    (fun a _ => match getT a 6 with | .int _ m => (m + 1).toNat | _ => 0) ⟨size, [], by simp [size_put, hs], by simp [defers_put, hd], by simp (disch := first | omega | (simp only [size_put]; omega)) [eval_tmp, eval_const, getT_put, getT_put_ne, h0], by simp (disch := first | omega | (simp only [size_put]; omega)) [eval_tmp, eval_const, getT_put, getT_put_ne], Nat.le_refl _, by simp (disch := first | omega | (simp only [size_put]; omega)) [eval_tmp, eval_const, getT_put, getT_put_ne]; exact own_nil _ _ _, by simp, Below.refl _ _, Nat.le_refl _⟩ ?_
  rintro a w1 ⟨j, xs, hs1, hd1, g0, g6, hj, ho, hx, hbw, hsz⟩
  have hxl : xs.length + j ≤ 8 := by
    have := congrArg List.length hx
    rw [List.length_append, fixed_length, fixed_length] at this
    omega
  refine SC.wp_seq (SC.wp_seq (SC.wp_reg ?_))
  repeat (first | (apply ops_1; (focus (simp (disch := first | omega | (simp only [size_put]; omega)) [qv, qcall, vop, iop, eval_tmp, eval_const, getT_put, getT_put_ne, hst, g6]; try rfl))) | (apply ops_y; (focus rfl); (focus (first | omega | (simp only [size_put]; omega))); (focus (simp (disch := first | omega | (simp only [size_put]; omega)) [getT_put, getT_put_ne, hst, g6]; done)); (focus (simp (disch := first | omega | (simp only [size_put]; omega)) [qv, qcall, vop, iop, eval_tmp, eval_const, getT_put, getT_put_ne, hst, g6]; try rfl))) | (apply ops_n; (focus rfl); (focus (first | omega | (simp only [size_put]; omega))); (focus (first | (left; simp (disch := first | omega | (simp only [size_put]; omega)) [getT_put, getT_put_ne, hst, g6]; done) | (right; simp (disch := first | omega | (simp only [size_put]; omega)) [getT_put, getT_put_ne]; done)))))
  refine ops_nil (SC.wp_cond (t := decide ((0 : Int) ≤ (j : Int) - 1)) (by simp (disch := first | omega | (simp only [size_put]; omega)) [eval_tmp, eval_const, getT_put, getT_put_ne]) ?_)
  cases j with
  | zero =>
    rw [if_neg (by simp)]
    refine SC.wp_exit ?_
    simp only [Exit.then, Exit.inBlock, if_true]
    refine SC.wp_seq (SC.wp_reg ?_)
    repeat (first | (apply ops_1; (focus (simp (disch := first | omega | (simp only [size_put]; omega)) [qv, qcall, vop, iop, eval_tmp, eval_const, getT_put, getT_put_ne]; try rfl))) | (apply ops_y; (focus rfl); (focus (first | omega | (simp only [size_put]; omega))); (focus (simp (disch := first | omega | (simp only [size_put]; omega)) [getT_put, getT_put_ne]; done)); (focus (simp (disch := first | omega | (simp only [size_put]; omega)) [qv, qcall, vop, iop, eval_tmp, eval_const, getT_put, getT_put_ne]; try rfl))) | (apply ops_n; (focus rfl); (focus (first | omega | (simp only [size_put]; omega))); (focus (first | (left; simp (disch := first | omega | (simp only [size_put]; omega)) [getT_put, getT_put_ne]; done) | (right; simp (disch := first | omega | (simp only [size_put]; omega)) [getT_put, getT_put_ne]; done)))))
    refine ops_nil (SC.wp_ret (ret_tmp hr (by simp [defers_put, hd1]) ⟨_, rfl, ?_, hbw⟩))
    rw [fixed, List.append_nil] at hx
    rw [← hx]
    refine own_eq ho ?_
    simp (disch := first | omega | (simp only [size_put]; omega)) [eval_tmp, eval_const, getT_put, getT_put_ne]
  | succ i =>
    have ei : ((i + 1 : Nat) : Int) - 1 = (i : Int) := by omega
    rw [ei] at g6
    rw [if_pos (by simp)]
    refine SC.wp_skip ?_
    simp only [Exit.then]
    refine SC.wp_seq (SC.wp_block (SC.wp_reg ?_))
    have ew8 : IntKind.i64.wrap (8 * (i : Int)) = 8 * (i : Int) := by rw [wrap_i64']; split <;> omega
    have h8b : (8 * (i : Int)).toNat = 8 * i := by omega
    have h8a : (0 : Int) ≤ 8 * (i : Int) := by omega
    have h8c : 8 * i ≤ 64 := by omega
    have e256 : (2 : Int) ^ (8 * i) = 256 ^ i := by rw [Int.pow_mul]; rfl
    iterate 6 (first | (apply ops_1; (focus (simp (disch := first | omega | (simp only [size_put]; omega)) [qv, qcall, vop, iop, eval_tmp, eval_const, getT_put, getT_put_ne, hst, g0, g6, ew8, h8b, h8a, h8c, e256, IntKind.bits, wrap_u8]; try rfl))) | (apply ops_y; (focus rfl); (focus (first | omega | (simp only [size_put]; omega))); (focus (simp (disch := first | omega | (simp only [size_put]; omega)) [getT_put, getT_put_ne, hst, g0, g6, ew8, h8b, h8a, h8c, e256, IntKind.bits, wrap_u8]; done)); (focus (simp (disch := first | omega | (simp only [size_put]; omega)) [qv, qcall, vop, iop, eval_tmp, eval_const, getT_put, getT_put_ne, hst, g0, g6, ew8, h8b, h8a, h8c, e256, IntKind.bits, wrap_u8]; try rfl))) | (apply ops_n; (focus rfl); (focus (first | omega | (simp only [size_put]; omega))); (focus (first | (left; simp (disch := first | omega | (simp only [size_put]; omega)) [getT_put, getT_put_ne, hst, g0, g6, ew8, h8b, h8a, h8c, e256, IntKind.bits, wrap_u8]; done) | (right; simp (disch := first | omega | (simp only [size_put]; omega)) [getT_put, getT_put_ne]; done)))))
    refine ops_u8app (B := w.heap.size) (dv := getT a 5) (xs := xs) (bs := [T.byteOf (n / 256 ^ i)]) hU8s rfl (by decide) (by decide) ?_ ho hsz (by simp; omega) ?_ (by decide) (by simp only [size_put]; omega) ?_
    · simp only [cellsOf, List.map_cons, List.map_nil]
      rw [byteOf_cell]
      simp (disch := first | omega | (simp only [size_put]; omega)) [eval_tmp, eval_const, getT_put, getT_put_ne, List.range']
    · simp (disch := first | omega | (simp only [size_put]; omega)) [eval_tmp, eval_const, getT_put, getT_put_ne]
    intro dv' w2 v1 q1 q2 q3
    have ewi : IntKind.i64.wrap ((i : Int) - 1) = (i : Int) - 1 := by rw [wrap_i64']; split <;> omega
    repeat (first | (apply ops_1; (focus (simp (disch := first | omega | (simp only [size_put]; omega)) [qv, qcall, vop, iop, eval_tmp, eval_const, getT_put, getT_put_ne]; try rfl))) | (apply ops_y; (focus rfl); (focus (first | omega | (simp only [size_put]; omega))); (focus (simp (disch := first | omega | (simp only [size_put]; omega)) [getT_put, getT_put_ne]; done)); (focus (simp (disch := first | omega | (simp only [size_put]; omega)) [qv, qcall, vop, iop, eval_tmp, eval_const, getT_put, getT_put_ne]; try rfl))) | (apply ops_n; (focus rfl); (focus (first | omega | (simp only [size_put]; omega))); (focus (first | (left; simp (disch := first | omega | (simp only [size_put]; omega)) [getT_put, getT_put_ne]; done) | (right; simp (disch := first | omega | (simp only [size_put]; omega)) [getT_put, getT_put_ne]; done)))))
    refine ops_nil ?_
    simp only [Exit.inBlock, Exit.then]
    refine SC.wp_reg ?_
    repeat (first | (apply ops_1; (focus (simp (disch := first | omega | (simp only [size_put]; omega)) [qv, qcall, vop, iop, eval_tmp, eval_const, getT_put, getT_put_ne, g6, ewi]; try rfl))) | (apply ops_y; (focus rfl); (focus (first | omega | (simp only [size_put]; omega))); (focus (simp (disch := first | omega | (simp only [size_put]; omega)) [getT_put, getT_put_ne, g6, ewi]; done)); (focus (simp (disch := first | omega | (simp only [size_put]; omega)) [qv, qcall, vop, iop, eval_tmp, eval_const, getT_put, getT_put_ne, g6, ewi]; try rfl))) | (apply ops_n; (focus rfl); (focus (first | omega | (simp only [size_put]; omega))); (focus (first | (left; simp (disch := first | omega | (simp only [size_put]; omega)) [getT_put, getT_put_ne, g6, ewi]; done) | (right; simp (disch := first | omega | (simp only [size_put]; omega)) [getT_put, getT_put_ne]; done)))))
    refine ops_nil ?_
    try simp only [Exit.then]
    refine ⟨⟨i, xs ++ [T.byteOf (n / 256 ^ i)], by simp [size_put, hs1], by simp [defers_put, hd1], ?_, ?_, by omega, ?_, ?_, hbw.trans q2, q3⟩, ?_⟩
    · simp (disch := first | omega | (simp only [size_put]; omega)) [eval_tmp, eval_const, getT_put, getT_put_ne, g0]
    · simp (disch := first | omega | (simp only [size_put]; omega)) [eval_tmp, eval_const, getT_put, getT_put_ne]
    · refine own_eq q1 ?_
      simp (disch := first | omega | (simp only [size_put]; omega)) [eval_tmp, eval_const, getT_put, getT_put_ne]
    · rw [List.append_assoc]; exact hx
    · simp (disch := first | omega | (simp only [size_put]; omega)) [eval_tmp, eval_const, getT_put, getT_put_ne, g6]

def widthOf (kind : Int) : Nat := if kind = 1 then 1 else if kind = 2 ∨ kind = 5 then 2 else if kind = 3 then 4 else 8

theorem width_ok (hf : P.funcs[f]? = some fn) (hb : fn.body.map strip = some (sc_width X.I)) (hn : fn.ntmps = 11) (hr : fn.results = #[.tmp 2])
    (w : World) (kind : Int) : Calls P f #[.int .i64 kind] w fun e w' => e = .returned (.int .i64 (widthOf kind : Int)) ∧ w = w' := by
  refine fn_calls hf hb hn (by simp) fun a0 hs hd ha => ?_
  have h0 := ha 0 _ rfl
  simp only [List.getElem_toArray, List.getElem_cons_zero, List.getElem_cons_succ] at h0
  refine SC.wp_seq (SC.wp_reg ?_)
  repeat (first | (apply ops_1; (focus (simp (disch := first | omega | (simp only [size_put]; omega)) [qv, qcall, vop, iop, eval_tmp, eval_const, getT_put, getT_put_ne]; try rfl))) | (apply ops_y; (focus rfl); (focus (first | omega | (simp only [size_put]; omega))); (focus (simp (disch := first | omega | (simp only [size_put]; omega)) [getT_put, getT_put_ne]; done)); (focus (simp (disch := first | omega | (simp only [size_put]; omega)) [qv, qcall, vop, iop, eval_tmp, eval_const, getT_put, getT_put_ne]; try rfl))) | (apply ops_n; (focus rfl); (focus (first | omega | (simp only [size_put]; omega))); (focus (first | (left; simp (disch := first | omega | (simp only [size_put]; omega)) [getT_put, getT_put_ne]; done) | (right; simp (disch := first | omega | (simp only [size_put]; omega)) [getT_put, getT_put_ne]; done)))))
  refine ops_nil (SC.wp_seq (SC.wp_seq (SC.wp_reg ?_)))
  repeat (first | (apply ops_1; (focus (simp (disch := first | omega | (simp only [size_put]; omega)) [qv, qcall, vop, iop, eval_tmp, eval_const, getT_put, getT_put_ne, h0]; try rfl))) | (apply ops_y; (focus rfl); (focus (first | omega | (simp only [size_put]; omega))); (focus (simp (disch := first | omega | (simp only [size_put]; omega)) [getT_put, getT_put_ne, h0]; done)); (focus (simp (disch := first | omega | (simp only [size_put]; omega)) [qv, qcall, vop, iop, eval_tmp, eval_const, getT_put, getT_put_ne, h0]; try rfl))) | (apply ops_n; (focus rfl); (focus (first | omega | (simp only [size_put]; omega))); (focus (first | (left; simp (disch := first | omega | (simp only [size_put]; omega)) [getT_put, getT_put_ne, h0]; done) | (right; simp (disch := first | omega | (simp only [size_put]; omega)) [getT_put, getT_put_ne]; done)))))
  refine ops_nil (SC.wp_block (SC.wp_seq (SC.wp_reg ?_)))
  repeat (first | (apply ops_1; (focus (simp (disch := first | omega | (simp only [size_put]; omega)) [qv, qcall, vop, iop, eval_tmp, eval_const, getT_put, getT_put_ne]; try rfl))) | (apply ops_y; (focus rfl); (focus (first | omega | (simp only [size_put]; omega))); (focus (simp (disch := first | omega | (simp only [size_put]; omega)) [getT_put, getT_put_ne]; done)); (focus (simp (disch := first | omega | (simp only [size_put]; omega)) [qv, qcall, vop, iop, eval_tmp, eval_const, getT_put, getT_put_ne]; try rfl))) | (apply ops_n; (focus rfl); (focus (first | omega | (simp only [size_put]; omega))); (focus (first | (left; simp (disch := first | omega | (simp only [size_put]; omega)) [getT_put, getT_put_ne]; done) | (right; simp (disch := first | omega | (simp only [size_put]; omega)) [getT_put, getT_put_ne]; done)))))
  refine ops_nil (SC.wp_cond (t := kind == 1) (by simp (disch := first | omega | (simp only [size_put]; omega)) [eval_tmp, eval_const, getT_put, getT_put_ne]) ?_)
  by_cases e1 : kind = 1
  · subst e1
    rw [if_pos (by decide)]
    refine SC.wp_seq (SC.wp_reg ?_)
    repeat (first | (apply ops_1; (focus (simp (disch := first | omega | (simp only [size_put]; omega)) [qv, qcall, vop, iop, eval_tmp, eval_const, getT_put, getT_put_ne]; try rfl))) | (apply ops_y; (focus rfl); (focus (first | omega | (simp only [size_put]; omega))); (focus (simp (disch := first | omega | (simp only [size_put]; omega)) [getT_put, getT_put_ne]; done)); (focus (simp (disch := first | omega | (simp only [size_put]; omega)) [qv, qcall, vop, iop, eval_tmp, eval_const, getT_put, getT_put_ne]; try rfl))) | (apply ops_n; (focus rfl); (focus (first | omega | (simp only [size_put]; omega))); (focus (first | (left; simp (disch := first | omega | (simp only [size_put]; omega)) [getT_put, getT_put_ne]; done) | (right; simp (disch := first | omega | (simp only [size_put]; omega)) [getT_put, getT_put_ne]; done)))))
    refine ops_nil (SC.wp_ret ?_)
    simp only [Exit.then, Exit.inBlock]
    refine ret_tmp hr (by simp [defers_put, hd]) ⟨?_, rfl⟩
    simp (disch := first | omega | (simp only [size_put]; omega)) [eval_tmp, eval_const, getT_put, getT_put_ne, widthOf]
  rw [if_neg (by simpa using e1)]
  refine SC.wp_seq (SC.wp_seq (SC.wp_reg ?_))
  repeat (first | (apply ops_1; (focus (simp (disch := first | omega | (simp only [size_put]; omega)) [qv, qcall, vop, iop, eval_tmp, eval_const, getT_put, getT_put_ne]; try rfl))) | (apply ops_y; (focus rfl); (focus (first | omega | (simp only [size_put]; omega))); (focus (simp (disch := first | omega | (simp only [size_put]; omega)) [getT_put, getT_put_ne]; done)); (focus (simp (disch := first | omega | (simp only [size_put]; omega)) [qv, qcall, vop, iop, eval_tmp, eval_const, getT_put, getT_put_ne]; try rfl))) | (apply ops_n; (focus rfl); (focus (first | omega | (simp only [size_put]; omega))); (focus (first | (left; simp (disch := first | omega | (simp only [size_put]; omega)) [getT_put, getT_put_ne]; done) | (right; simp (disch := first | omega | (simp only [size_put]; omega)) [getT_put, getT_put_ne]; done)))))
  refine ops_nil (SC.wp_cond (t := kind == 2) (by simp (disch := first | omega | (simp only [size_put]; omega)) [eval_tmp, eval_const, getT_put, getT_put_ne]) ?_)
  by_cases e2 : kind = 2
  · subst e2
    rw [if_pos (by decide)]
    refine SC.wp_skip ?_
    simp only [Exit.then]
    refine SC.wp_cond (t := true) (by simp (disch := first | omega | (simp only [size_put]; omega)) [eval_tmp, eval_const, getT_put, getT_put_ne]) ?_
    rw [if_pos (by decide)]
    refine SC.wp_seq (SC.wp_reg ?_)
    repeat (first | (apply ops_1; (focus (simp (disch := first | omega | (simp only [size_put]; omega)) [qv, qcall, vop, iop, eval_tmp, eval_const, getT_put, getT_put_ne]; try rfl))) | (apply ops_y; (focus rfl); (focus (first | omega | (simp only [size_put]; omega))); (focus (simp (disch := first | omega | (simp only [size_put]; omega)) [getT_put, getT_put_ne]; done)); (focus (simp (disch := first | omega | (simp only [size_put]; omega)) [qv, qcall, vop, iop, eval_tmp, eval_const, getT_put, getT_put_ne]; try rfl))) | (apply ops_n; (focus rfl); (focus (first | omega | (simp only [size_put]; omega))); (focus (first | (left; simp (disch := first | omega | (simp only [size_put]; omega)) [getT_put, getT_put_ne]; done) | (right; simp (disch := first | omega | (simp only [size_put]; omega)) [getT_put, getT_put_ne]; done)))))
    refine ops_nil (SC.wp_ret ?_)
    simp only [Exit.then, Exit.inBlock]
    refine ret_tmp hr (by simp [defers_put, hd]) ⟨?_, rfl⟩
    simp (disch := first | omega | (simp only [size_put]; omega)) [eval_tmp, eval_const, getT_put, getT_put_ne, widthOf]
  rw [if_neg (by simpa using e2)]
  refine SC.wp_reg ?_
  repeat (first | (apply ops_1; (focus (simp (disch := first | omega | (simp only [size_put]; omega)) [qv, qcall, vop, iop, eval_tmp, eval_const, getT_put, getT_put_ne]; try rfl))) | (apply ops_y; (focus rfl); (focus (first | omega | (simp only [size_put]; omega))); (focus (simp (disch := first | omega | (simp only [size_put]; omega)) [getT_put, getT_put_ne]; done)); (focus (simp (disch := first | omega | (simp only [size_put]; omega)) [qv, qcall, vop, iop, eval_tmp, eval_const, getT_put, getT_put_ne]; try rfl))) | (apply ops_n; (focus rfl); (focus (first | omega | (simp only [size_put]; omega))); (focus (first | (left; simp (disch := first | omega | (simp only [size_put]; omega)) [getT_put, getT_put_ne]; done) | (right; simp (disch := first | omega | (simp only [size_put]; omega)) [getT_put, getT_put_ne]; done)))))
  refine ops_nil ?_
  simp only [Exit.then]
  refine SC.wp_cond (t := kind == 5) (by simp (disch := first | omega | (simp only [size_put]; omega)) [eval_tmp, eval_const, getT_put, getT_put_ne]) ?_
  by_cases e5 : kind = 5
  · subst e5
    rw [if_pos (by decide)]
    refine SC.wp_seq (SC.wp_reg ?_)
    repeat (first | (apply ops_1; (focus (simp (disch := first | omega | (simp only [size_put]; omega)) [qv, qcall, vop, iop, eval_tmp, eval_const, getT_put, getT_put_ne]; try rfl))) | (apply ops_y; (focus rfl); (focus (first | omega | (simp only [size_put]; omega))); (focus (simp (disch := first | omega | (simp only [size_put]; omega)) [getT_put, getT_put_ne]; done)); (focus (simp (disch := first | omega | (simp only [size_put]; omega)) [qv, qcall, vop, iop, eval_tmp, eval_const, getT_put, getT_put_ne]; try rfl))) | (apply ops_n; (focus rfl); (focus (first | omega | (simp only [size_put]; omega))); (focus (first | (left; simp (disch := first | omega | (simp only [size_put]; omega)) [getT_put, getT_put_ne]; done) | (right; simp (disch := first | omega | (simp only [size_put]; omega)) [getT_put, getT_put_ne]; done)))))
    refine ops_nil (SC.wp_ret ?_)
    simp only [Exit.then, Exit.inBlock]
    refine ret_tmp hr (by simp [defers_put, hd]) ⟨?_, rfl⟩
    simp (disch := first | omega | (simp only [size_put]; omega)) [eval_tmp, eval_const, getT_put, getT_put_ne, widthOf]
  rw [if_neg (by simpa using e5)]
  refine SC.wp_seq (SC.wp_reg ?_)
  repeat (first | (apply ops_1; (focus (simp (disch := first | omega | (simp only [size_put]; omega)) [qv, qcall, vop, iop, eval_tmp, eval_const, getT_put, getT_put_ne]; try rfl))) | (apply ops_y; (focus rfl); (focus (first | omega | (simp only [size_put]; omega))); (focus (simp (disch := first | omega | (simp only [size_put]; omega)) [getT_put, getT_put_ne]; done)); (focus (simp (disch := first | omega | (simp only [size_put]; omega)) [qv, qcall, vop, iop, eval_tmp, eval_const, getT_put, getT_put_ne]; try rfl))) | (apply ops_n; (focus rfl); (focus (first | omega | (simp only [size_put]; omega))); (focus (first | (left; simp (disch := first | omega | (simp only [size_put]; omega)) [getT_put, getT_put_ne]; done) | (right; simp (disch := first | omega | (simp only [size_put]; omega)) [getT_put, getT_put_ne]; done)))))
  refine ops_nil (SC.wp_cond (t := kind == 3) (by simp (disch := first | omega | (simp only [size_put]; omega)) [eval_tmp, eval_const, getT_put, getT_put_ne]) ?_)
  by_cases e3 : kind = 3
  · subst e3
    rw [if_pos (by decide)]
    refine SC.wp_seq (SC.wp_reg ?_)
    repeat (first | (apply ops_1; (focus (simp (disch := first | omega | (simp only [size_put]; omega)) [qv, qcall, vop, iop, eval_tmp, eval_const, getT_put, getT_put_ne]; try rfl))) | (apply ops_y; (focus rfl); (focus (first | omega | (simp only [size_put]; omega))); (focus (simp (disch := first | omega | (simp only [size_put]; omega)) [getT_put, getT_put_ne]; done)); (focus (simp (disch := first | omega | (simp only [size_put]; omega)) [qv, qcall, vop, iop, eval_tmp, eval_const, getT_put, getT_put_ne]; try rfl))) | (apply ops_n; (focus rfl); (focus (first | omega | (simp only [size_put]; omega))); (focus (first | (left; simp (disch := first | omega | (simp only [size_put]; omega)) [getT_put, getT_put_ne]; done) | (right; simp (disch := first | omega | (simp only [size_put]; omega)) [getT_put, getT_put_ne]; done)))))
    refine ops_nil (SC.wp_ret ?_)
    simp only [Exit.then, Exit.inBlock]
    refine ret_tmp hr (by simp [defers_put, hd]) ⟨?_, rfl⟩
    simp (disch := first | omega | (simp only [size_put]; omega)) [eval_tmp, eval_const, getT_put, getT_put_ne, widthOf]
  rw [if_neg (by simpa using e3)]
  refine SC.wp_skip ?_
  simp only [Exit.then, Exit.inBlock]
  refine SC.wp_seq (SC.wp_reg ?_)
  repeat (first | (apply ops_1; (focus (simp (disch := first | omega | (simp only [size_put]; omega)) [qv, qcall, vop, iop, eval_tmp, eval_const, getT_put, getT_put_ne]; try rfl))) | (apply ops_y; (focus rfl); (focus (first | omega | (simp only [size_put]; omega))); (focus (simp (disch := first | omega | (simp only [size_put]; omega)) [getT_put, getT_put_ne]; done)); (focus (simp (disch := first | omega | (simp only [size_put]; omega)) [qv, qcall, vop, iop, eval_tmp, eval_const, getT_put, getT_put_ne]; try rfl))) | (apply ops_n; (focus rfl); (focus (first | omega | (simp only [size_put]; omega))); (focus (first | (left; simp (disch := first | omega | (simp only [size_put]; omega)) [getT_put, getT_put_ne]; done) | (right; simp (disch := first | omega | (simp only [size_put]; omega)) [getT_put, getT_put_ne]; done)))))
  refine ops_nil (SC.wp_ret ?_)
  refine ret_tmp hr (by simp [defers_put, hd]) ⟨?_, rfl⟩
  simp (disch := first | omega | (simp only [size_put]; omega)) [eval_tmp, eval_const, getT_put, getT_put_ne, widthOf, e1, e2, e3, e5]

/-- a call whose contract is at hand -/
theorem ops_call {all : List SOp} {a : Act} {w : World} {t g : Nat} {args : Array Operand} {argsV : Array Value} {r : List SOp} {K : Act → World → Prop} {R : Ending → World → Prop} (hf : FnOK P g) (hc : Calls P g argsV w R) (hargs : args.map a.eval = argsV)
    (hR : ∀ e w', R e w' → ∃ v, e = .returned v ∧ opsw P all r K (a.put (some t) v) w') : opsw P all (⟨some t, .call ⟨.value (.func g), args, #[]⟩, none⟩ :: r) K a w := by
  obtain ⟨fn, h1, h2, h3⟩ := hf
  exact opsw_none rfl (opw_call (R := R) h1 h2 h3 (by rw [hargs]; exact hc) hR)

theorem counted_ok {gU gF : FuncId} (hX : stOK P X = true) (hf : P.funcs[f]? = some fn) (hb : fn.body.map strip = some (sc_counted X.Bs X.I X.U64 gU gF)) (hn : fn.ntmps = 28) (hr : fn.results = #[.tmp 8])
    (oU : FnOK P gU) (cU : ∀ (w : World) (n : Nat), n < 18446744073709551616 → Calls P gU #[.int .u64 (n : Int)] w (RetOwn X.U8 w (uvarint n)))
    (oF : FnOK P gF) (cF : ∀ (w : World) (n : Int) (size : Nat), size ≤ 8 → Calls P gF #[.int .i64 n, .int .i64 (size : Int)] w (RetOwn X.U8 w (fixed n size)))
    (w : World) (flex null : Bool) (n size : Nat) (hn63 : n < 9223372036854775807) (hs8 : size ≤ 8) : Calls P f #[.bool flex, .bool null, .int .i64 (n : Int), .int .i64 (size : Int)] w (RetOwn X.U8 w (counted flex null n size)) := by
  have hst := st_facts hX
  have hU8s := hst.2.2.1.1
  refine fn_calls hf hb hn (by simp) fun a0 hs hd ha => ?_
  have h0 := ha 0 _ rfl
  have h1 := ha 1 _ rfl
  have h2 := ha 2 _ rfl
  have h3 := ha 3 _ rfl
  simp only [List.getElem_toArray, List.getElem_cons_zero, List.getElem_cons_succ] at h0 h1 h2 h3
  refine SC.wp_seq (SC.wp_reg ?_)
  repeat (first | (apply ops_1; (focus (simp (disch := first | omega | (simp only [size_put]; omega)) [qv, qcall, vop, iop, eval_tmp, eval_const, getT_put, getT_put_ne]; try rfl))) | (apply ops_y; (focus rfl); (focus (first | omega | (simp only [size_put]; omega))); (focus (simp (disch := first | omega | (simp only [size_put]; omega)) [getT_put, getT_put_ne]; done)); (focus (simp (disch := first | omega | (simp only [size_put]; omega)) [qv, qcall, vop, iop, eval_tmp, eval_const, getT_put, getT_put_ne]; try rfl))) | (apply ops_n; (focus rfl); (focus (first | omega | (simp only [size_put]; omega))); (focus (first | (left; simp (disch := first | omega | (simp only [size_put]; omega)) [getT_put, getT_put_ne]; done) | (right; simp (disch := first | omega | (simp only [size_put]; omega)) [getT_put, getT_put_ne]; done)))))
  refine ops_nil (SC.wp_seq (SC.wp_block (SC.wp_seq (SC.wp_reg ?_))))
  have fin : ∀ (out : Bytes) (a : Act) (w' : World) (v : Value), a.tmps.size = 28 → a.defers = [] → getT a 8 = v → Own X.U8 w' w.heap.size v out → Below w.heap.size w w' → out = counted flex null n size → bodyPost P fn (RetOwn X.U8 w (counted flex null n size)) .ret a w' := by
    intro out a w' v q1 q2 q3 q4 q5 q6
    subst q6
    exact ret_tmp hr q2 ⟨v, by rw [q3], q4, q5⟩
  cases flex
  · repeat (first | (apply ops_1; (focus (simp (disch := first | omega | (simp only [size_put]; omega)) [qv, qcall, vop, iop, eval_tmp, eval_const, getT_put, getT_put_ne, h0, h1]; try rfl))) | (apply ops_y; (focus rfl); (focus (first | omega | (simp only [size_put]; omega))); (focus (simp (disch := first | omega | (simp only [size_put]; omega)) [getT_put, getT_put_ne, h0, h1]; done)); (focus (simp (disch := first | omega | (simp only [size_put]; omega)) [qv, qcall, vop, iop, eval_tmp, eval_const, getT_put, getT_put_ne, h0, h1]; try rfl))) | (apply ops_n; (focus rfl); (focus (first | omega | (simp only [size_put]; omega))); (focus (first | (left; simp (disch := first | omega | (simp only [size_put]; omega)) [getT_put, getT_put_ne, h0, h1]; done) | (right; simp (disch := first | omega | (simp only [size_put]; omega)) [getT_put, getT_put_ne]; done)))))
    refine ops_nil (SC.wp_cond (t := false) (by simp (disch := first | omega | (simp only [size_put]; omega)) [eval_tmp, eval_const, getT_put, getT_put_ne]) ?_)
    rw [if_neg (by simp)]
    refine SC.wp_seq (SC.wp_reg ?_)
    repeat (first | (apply ops_1; (focus (simp (disch := first | omega | (simp only [size_put]; omega)) [qv, qcall, vop, iop, eval_tmp, eval_const, getT_put, getT_put_ne, h0]; try rfl))) | (apply ops_y; (focus rfl); (focus (first | omega | (simp only [size_put]; omega))); (focus (simp (disch := first | omega | (simp only [size_put]; omega)) [getT_put, getT_put_ne, h0]; done)); (focus (simp (disch := first | omega | (simp only [size_put]; omega)) [qv, qcall, vop, iop, eval_tmp, eval_const, getT_put, getT_put_ne, h0]; try rfl))) | (apply ops_n; (focus rfl); (focus (first | omega | (simp only [size_put]; omega))); (focus (first | (left; simp (disch := first | omega | (simp only [size_put]; omega)) [getT_put, getT_put_ne, h0]; done) | (right; simp (disch := first | omega | (simp only [size_put]; omega)) [getT_put, getT_put_ne]; done)))))
    refine ops_nil (SC.wp_cond (t := false) (by simp (disch := first | omega | (simp only [size_put]; omega)) [eval_tmp, eval_const, getT_put, getT_put_ne]) ?_)
    rw [if_neg (by simp)]
    refine SC.wp_seq (SC.wp_reg ?_)
    repeat (first | (apply ops_1; (focus (simp (disch := first | omega | (simp only [size_put]; omega)) [qv, qcall, vop, iop, eval_tmp, eval_const, getT_put, getT_put_ne, h1]; try rfl))) | (apply ops_y; (focus rfl); (focus (first | omega | (simp only [size_put]; omega))); (focus (simp (disch := first | omega | (simp only [size_put]; omega)) [getT_put, getT_put_ne, h1]; done)); (focus (simp (disch := first | omega | (simp only [size_put]; omega)) [qv, qcall, vop, iop, eval_tmp, eval_const, getT_put, getT_put_ne, h1]; try rfl))) | (apply ops_n; (focus rfl); (focus (first | omega | (simp only [size_put]; omega))); (focus (first | (left; simp (disch := first | omega | (simp only [size_put]; omega)) [getT_put, getT_put_ne, h1]; done) | (right; simp (disch := first | omega | (simp only [size_put]; omega)) [getT_put, getT_put_ne]; done)))))
    refine ops_nil (SC.wp_cond (t := null) (by simp (disch := first | omega | (simp only [size_put]; omega)) [eval_tmp, eval_const, getT_put, getT_put_ne]) ?_)
    cases null
    · rw [if_neg (by simp)]
      refine SC.wp_skip ?_
      simp only [Exit.then, Exit.inBlock]
      refine SC.wp_seq (SC.wp_reg ?_)
      iterate 2 (first | (apply ops_1; (focus (simp (disch := first | omega | (simp only [size_put]; omega)) [qv, qcall, vop, iop, eval_tmp, eval_const, getT_put, getT_put_ne, h2, h3]; try rfl))) | (apply ops_y; (focus rfl); (focus (first | omega | (simp only [size_put]; omega))); (focus (simp (disch := first | omega | (simp only [size_put]; omega)) [getT_put, getT_put_ne, h2, h3]; done)); (focus (simp (disch := first | omega | (simp only [size_put]; omega)) [qv, qcall, vop, iop, eval_tmp, eval_const, getT_put, getT_put_ne, h2, h3]; try rfl))) | (apply ops_n; (focus rfl); (focus (first | omega | (simp only [size_put]; omega))); (focus (first | (left; simp (disch := first | omega | (simp only [size_put]; omega)) [getT_put, getT_put_ne, h2, h3]; done) | (right; simp (disch := first | omega | (simp only [size_put]; omega)) [getT_put, getT_put_ne]; done)))))
      refine ops_call oF (cF w n size hs8) (by simp (disch := first | omega | (simp only [size_put]; omega)) [eval_tmp, eval_const, getT_put, getT_put_ne]) ?_
      rintro e w' ⟨v, rfl, q1, q2⟩
      refine ⟨v, rfl, ?_⟩
      repeat (first | (apply ops_1; (focus (simp (disch := first | omega | (simp only [size_put]; omega)) [qv, qcall, vop, iop, eval_tmp, eval_const, getT_put, getT_put_ne]; try rfl))) | (apply ops_y; (focus rfl); (focus (first | omega | (simp only [size_put]; omega))); (focus (simp (disch := first | omega | (simp only [size_put]; omega)) [getT_put, getT_put_ne]; done)); (focus (simp (disch := first | omega | (simp only [size_put]; omega)) [qv, qcall, vop, iop, eval_tmp, eval_const, getT_put, getT_put_ne]; try rfl))) | (apply ops_n; (focus rfl); (focus (first | omega | (simp only [size_put]; omega))); (focus (first | (left; simp (disch := first | omega | (simp only [size_put]; omega)) [getT_put, getT_put_ne]; done) | (right; simp (disch := first | omega | (simp only [size_put]; omega)) [getT_put, getT_put_ne]; done)))))
      refine ops_nil (SC.wp_ret ?_)
      refine fin _ _ _ v (by simp [size_put, hs]) (by simp [defers_put, hd]) (by simp (disch := first | omega | (simp only [size_put]; omega)) [eval_tmp, eval_const, getT_put, getT_put_ne]) q1 q2 (by simp [counted])
    · rw [if_pos rfl]
      refine SC.wp_seq (SC.wp_reg ?_)
      iterate 1 (first | (apply ops_1; (focus (simp (disch := first | omega | (simp only [size_put]; omega)) [qv, qcall, vop, iop, eval_tmp, eval_const, getT_put, getT_put_ne, h3]; try rfl))) | (apply ops_y; (focus rfl); (focus (first | omega | (simp only [size_put]; omega))); (focus (simp (disch := first | omega | (simp only [size_put]; omega)) [getT_put, getT_put_ne, h3]; done)); (focus (simp (disch := first | omega | (simp only [size_put]; omega)) [qv, qcall, vop, iop, eval_tmp, eval_const, getT_put, getT_put_ne, h3]; try rfl))) | (apply ops_n; (focus rfl); (focus (first | omega | (simp only [size_put]; omega))); (focus (first | (left; simp (disch := first | omega | (simp only [size_put]; omega)) [getT_put, getT_put_ne, h3]; done) | (right; simp (disch := first | omega | (simp only [size_put]; omega)) [getT_put, getT_put_ne]; done)))))
      refine ops_call oF (cF w (-1) size hs8) (by simp (disch := first | omega | (simp only [size_put]; omega)) [eval_tmp, eval_const, getT_put, getT_put_ne]) ?_
      rintro e w' ⟨v, rfl, q1, q2⟩
      refine ⟨v, rfl, ?_⟩
      repeat (first | (apply ops_1; (focus (simp (disch := first | omega | (simp only [size_put]; omega)) [qv, qcall, vop, iop, eval_tmp, eval_const, getT_put, getT_put_ne]; try rfl))) | (apply ops_y; (focus rfl); (focus (first | omega | (simp only [size_put]; omega))); (focus (simp (disch := first | omega | (simp only [size_put]; omega)) [getT_put, getT_put_ne]; done)); (focus (simp (disch := first | omega | (simp only [size_put]; omega)) [qv, qcall, vop, iop, eval_tmp, eval_const, getT_put, getT_put_ne]; try rfl))) | (apply ops_n; (focus rfl); (focus (first | omega | (simp only [size_put]; omega))); (focus (first | (left; simp (disch := first | omega | (simp only [size_put]; omega)) [getT_put, getT_put_ne]; done) | (right; simp (disch := first | omega | (simp only [size_put]; omega)) [getT_put, getT_put_ne]; done)))))
      refine ops_nil (SC.wp_ret ?_)
      simp only [Exit.then, Exit.inBlock]
      refine fin _ _ _ v (by simp [size_put, hs]) (by simp [defers_put, hd]) (by simp (disch := first | omega | (simp only [size_put]; omega)) [eval_tmp, eval_const, getT_put, getT_put_ne]) q1 q2 (by simp [counted])
  · cases null
    · repeat (first | (apply ops_1; (focus (simp (disch := first | omega | (simp only [size_put]; omega)) [qv, qcall, vop, iop, eval_tmp, eval_const, getT_put, getT_put_ne, h0, h1]; try rfl))) | (apply ops_y; (focus rfl); (focus (first | omega | (simp only [size_put]; omega))); (focus (simp (disch := first | omega | (simp only [size_put]; omega)) [getT_put, getT_put_ne, h0, h1]; done)); (focus (simp (disch := first | omega | (simp only [size_put]; omega)) [qv, qcall, vop, iop, eval_tmp, eval_const, getT_put, getT_put_ne, h0, h1]; try rfl))) | (apply ops_n; (focus rfl); (focus (first | omega | (simp only [size_put]; omega))); (focus (first | (left; simp (disch := first | omega | (simp only [size_put]; omega)) [getT_put, getT_put_ne, h0, h1]; done) | (right; simp (disch := first | omega | (simp only [size_put]; omega)) [getT_put, getT_put_ne]; done)))))
      refine ops_nil (SC.wp_cond (t := false) (by simp (disch := first | omega | (simp only [size_put]; omega)) [eval_tmp, eval_const, getT_put, getT_put_ne]) ?_)
      rw [if_neg (by simp)]
      refine SC.wp_seq (SC.wp_reg ?_)
      repeat (first | (apply ops_1; (focus (simp (disch := first | omega | (simp only [size_put]; omega)) [qv, qcall, vop, iop, eval_tmp, eval_const, getT_put, getT_put_ne, h0]; try rfl))) | (apply ops_y; (focus rfl); (focus (first | omega | (simp only [size_put]; omega))); (focus (simp (disch := first | omega | (simp only [size_put]; omega)) [getT_put, getT_put_ne, h0]; done)); (focus (simp (disch := first | omega | (simp only [size_put]; omega)) [qv, qcall, vop, iop, eval_tmp, eval_const, getT_put, getT_put_ne, h0]; try rfl))) | (apply ops_n; (focus rfl); (focus (first | omega | (simp only [size_put]; omega))); (focus (first | (left; simp (disch := first | omega | (simp only [size_put]; omega)) [getT_put, getT_put_ne, h0]; done) | (right; simp (disch := first | omega | (simp only [size_put]; omega)) [getT_put, getT_put_ne]; done)))))
      refine ops_nil (SC.wp_cond (t := true) (by simp (disch := first | omega | (simp only [size_put]; omega)) [eval_tmp, eval_const, getT_put, getT_put_ne]) ?_)
      rw [if_pos rfl]
      refine SC.wp_seq (SC.wp_reg ?_)
      have e1 : (n : Int) % 18446744073709551616 = (n : Int) := by omega
      have e2 : ((n : Int) + 1) % 18446744073709551616 = ((n + 1 : Nat) : Int) := by omega
      iterate 1 (first | (apply ops_1; (focus (simp (disch := first | omega | (simp only [size_put]; omega)) [qv, qcall, vop, iop, eval_tmp, eval_const, getT_put, getT_put_ne, h2]; try rfl))) | (apply ops_y; (focus rfl); (focus (first | omega | (simp only [size_put]; omega))); (focus (simp (disch := first | omega | (simp only [size_put]; omega)) [getT_put, getT_put_ne, h2]; done)); (focus (simp (disch := first | omega | (simp only [size_put]; omega)) [qv, qcall, vop, iop, eval_tmp, eval_const, getT_put, getT_put_ne, h2]; try rfl))) | (apply ops_n; (focus rfl); (focus (first | omega | (simp only [size_put]; omega))); (focus (first | (left; simp (disch := first | omega | (simp only [size_put]; omega)) [getT_put, getT_put_ne, h2]; done) | (right; simp (disch := first | omega | (simp only [size_put]; omega)) [getT_put, getT_put_ne]; done)))))
      iterate 1 (first | (apply ops_1; (focus (simp (disch := first | omega | (simp only [size_put]; omega)) [qv, qcall, vop, iop, eval_tmp, eval_const, getT_put, getT_put_ne, hst, wrap_u64, e1]; try rfl))) | (apply ops_y; (focus rfl); (focus (first | omega | (simp only [size_put]; omega))); (focus (simp (disch := first | omega | (simp only [size_put]; omega)) [getT_put, getT_put_ne, hst, wrap_u64, e1]; done)); (focus (simp (disch := first | omega | (simp only [size_put]; omega)) [qv, qcall, vop, iop, eval_tmp, eval_const, getT_put, getT_put_ne, hst, wrap_u64, e1]; try rfl))) | (apply ops_n; (focus rfl); (focus (first | omega | (simp only [size_put]; omega))); (focus (first | (left; simp (disch := first | omega | (simp only [size_put]; omega)) [getT_put, getT_put_ne, hst, wrap_u64, e1]; done) | (right; simp (disch := first | omega | (simp only [size_put]; omega)) [getT_put, getT_put_ne]; done)))))
      iterate 1 (first | (apply ops_1; (focus (simp (disch := first | omega | (simp only [size_put]; omega)) [qv, qcall, vop, iop, eval_tmp, eval_const, getT_put, getT_put_ne, hst, wrap_u64, e2]; try rfl))) | (apply ops_y; (focus rfl); (focus (first | omega | (simp only [size_put]; omega))); (focus (simp (disch := first | omega | (simp only [size_put]; omega)) [getT_put, getT_put_ne, hst, wrap_u64, e2]; done)); (focus (simp (disch := first | omega | (simp only [size_put]; omega)) [qv, qcall, vop, iop, eval_tmp, eval_const, getT_put, getT_put_ne, hst, wrap_u64, e2]; try rfl))) | (apply ops_n; (focus rfl); (focus (first | omega | (simp only [size_put]; omega))); (focus (first | (left; simp (disch := first | omega | (simp only [size_put]; omega)) [getT_put, getT_put_ne, hst, wrap_u64, e2]; done) | (right; simp (disch := first | omega | (simp only [size_put]; omega)) [getT_put, getT_put_ne]; done)))))
      refine ops_call oU (cU w (n + 1) (by omega)) (by simp (disch := first | omega | (simp only [size_put]; omega)) [eval_tmp, eval_const, getT_put, getT_put_ne]) ?_
      rintro e w' ⟨v, rfl, q1, q2⟩
      refine ⟨v, rfl, ?_⟩
      repeat (first | (apply ops_1; (focus (simp (disch := first | omega | (simp only [size_put]; omega)) [qv, qcall, vop, iop, eval_tmp, eval_const, getT_put, getT_put_ne]; try rfl))) | (apply ops_y; (focus rfl); (focus (first | omega | (simp only [size_put]; omega))); (focus (simp (disch := first | omega | (simp only [size_put]; omega)) [getT_put, getT_put_ne]; done)); (focus (simp (disch := first | omega | (simp only [size_put]; omega)) [qv, qcall, vop, iop, eval_tmp, eval_const, getT_put, getT_put_ne]; try rfl))) | (apply ops_n; (focus rfl); (focus (first | omega | (simp only [size_put]; omega))); (focus (first | (left; simp (disch := first | omega | (simp only [size_put]; omega)) [getT_put, getT_put_ne]; done) | (right; simp (disch := first | omega | (simp only [size_put]; omega)) [getT_put, getT_put_ne]; done)))))
      refine ops_nil (SC.wp_ret ?_)
      simp only [Exit.then, Exit.inBlock]
      refine fin _ _ _ v (by simp [size_put, hs]) (by simp [defers_put, hd]) (by simp (disch := first | omega | (simp only [size_put]; omega)) [eval_tmp, eval_const, getT_put, getT_put_ne]) q1 q2 (by simp [counted])
    · repeat (first | (apply ops_1; (focus (simp (disch := first | omega | (simp only [size_put]; omega)) [qv, qcall, vop, iop, eval_tmp, eval_const, getT_put, getT_put_ne, h0, h1]; try rfl))) | (apply ops_y; (focus rfl); (focus (first | omega | (simp only [size_put]; omega))); (focus (simp (disch := first | omega | (simp only [size_put]; omega)) [getT_put, getT_put_ne, h0, h1]; done)); (focus (simp (disch := first | omega | (simp only [size_put]; omega)) [qv, qcall, vop, iop, eval_tmp, eval_const, getT_put, getT_put_ne, h0, h1]; try rfl))) | (apply ops_n; (focus rfl); (focus (first | omega | (simp only [size_put]; omega))); (focus (first | (left; simp (disch := first | omega | (simp only [size_put]; omega)) [getT_put, getT_put_ne, h0, h1]; done) | (right; simp (disch := first | omega | (simp only [size_put]; omega)) [getT_put, getT_put_ne]; done)))))
      refine ops_nil (SC.wp_cond (t := true) (by simp (disch := first | omega | (simp only [size_put]; omega)) [eval_tmp, eval_const, getT_put, getT_put_ne]) ?_)
      rw [if_pos rfl]
      refine SC.wp_seq (SC.wp_reg ?_)
      refine ops_u8lit (B := w.heap.size) (bs := [0]) hU8s rfl (by decide) (by decide) (by simp [cellsOf, cell, eval_const]) (Nat.le_refl _) ?_
      intro v w' q1 q2
      repeat (first | (apply ops_1; (focus (simp (disch := first | omega | (simp only [size_put]; omega)) [qv, qcall, vop, iop, eval_tmp, eval_const, getT_put, getT_put_ne]; try rfl))) | (apply ops_y; (focus rfl); (focus (first | omega | (simp only [size_put]; omega))); (focus (simp (disch := first | omega | (simp only [size_put]; omega)) [getT_put, getT_put_ne]; done)); (focus (simp (disch := first | omega | (simp only [size_put]; omega)) [qv, qcall, vop, iop, eval_tmp, eval_const, getT_put, getT_put_ne]; try rfl))) | (apply ops_n; (focus rfl); (focus (first | omega | (simp only [size_put]; omega))); (focus (first | (left; simp (disch := first | omega | (simp only [size_put]; omega)) [getT_put, getT_put_ne]; done) | (right; simp (disch := first | omega | (simp only [size_put]; omega)) [getT_put, getT_put_ne]; done)))))
      refine ops_nil (SC.wp_ret ?_)
      simp only [Exit.then, Exit.inBlock]
      refine fin _ _ _ v (by simp [size_put, hs]) (by simp [defers_put, hd]) (by simp (disch := first | omega | (simp only [size_put]; omega)) [eval_tmp, eval_const, getT_put, getT_put_ne]) q1 q2 (by simp [counted])
end
end Go.Proofs.Ytioodpjcpadkoaa.K
