/- The reference's functions 'Write', 'Same'; the laws' 'version'; 'part' at every schema. No condition. -/
import Derived.Test.YtioodpjcpadkoaaS11
namespace Go.Proofs.Ytioodpjcpadkoaa.K
open Go Go.RowKit Go.Proofs.Ytioodpjcpadkoaa.T
set_option linter.unusedSimpArgs false
set_option linter.unusedVariables false
set_option maxHeartbeats 4000000

mutual
/-- no list of fields is longer than a number of 32 bits says -/
def smallTy : Ty → Bool
  | .prim _ => true
  | .struct _ _ _ _ fs => decide (Fs.len fs < 4294967296) && smallFs fs
  | .list _ _ _ of => smallTy of
def smallFs : Fs → Bool
  | .nil => true
  | .cons _ ty r => smallTy ty && smallFs r
end

section
variable {G : List (Nat × Bytes) → Prop} {P : Program} {X : STy} {f : FuncId} {fn : Func} {fPart : FuncId}

mutual
theorem subC_all {C : Fs → Prop} (hC : ∀ fs, Fs.len fs < 4294967296 → SubsC C fs → C fs) : ∀ ty, smallTy ty = true → SubC C ty
  | .prim _, _ => by simp [SubC]
  | .struct _ _ _ _ fs, h => by
    simp only [smallTy, Bool.and_eq_true, decide_eq_true_eq] at h
    simp only [SubC]
    exact hC fs h.1 (subsC_all hC fs h.2)
  | .list _ _ _ of, h => by
    simp only [smallTy] at h
    simp only [SubC]
    exact subC_all hC of h
theorem subsC_all {C : Fs → Prop} (hC : ∀ fs, Fs.len fs < 4294967296 → SubsC C fs → C fs) : ∀ fs, smallFs fs = true → SubsC C fs
  | .nil, _ => by simp [SubsC]
  | .cons h ty r, hh => by
    simp only [smallFs, Bool.and_eq_true] at hh
    simp only [SubsC]
    exact ⟨subC_all hC ty hh.1, subsC_all hC r hh.2⟩
end

/-- a message of the reference -/
def msgV (fv : Value) (flex : Int) : Value := .agg #[fv, .int .i64 flex]

theorem write_ok (hX : stOK P X = true) (oP : FnOK P fPart) (hf : P.funcs[f]? = some fn) (hb : fn.body.map strip = some (sc_Write X.M X.T X.Fs X.I fPart)) (hn : fn.ntmps = 21) (hr : fn.results = #[.tmp 6])
    (fs : Fs) (cP : PartC G P X fPart fs) (w : World) (fv : Value) (mflex ver : Int) (t : Tree) (tv : Value) (hfv : FsV w (· < w.heap.size) fs fv) (ht : TV G w (· < w.heap.size) t tv)
    (hl : (wFs ver (decide (0 ≤ mflex) && decide (mflex ≤ ver)) fs t.l ++ wTags (decide (0 ≤ mflex) && decide (mflex ≤ ver)) t.u).length ≤ lim) :
    Calls P f #[msgV fv mflex, .int .i64 ver, tv] w (RetOwn X.U8 w (wFs ver (decide (0 ≤ mflex) && decide (mflex ≤ ver)) fs t.l ++ wTags (decide (0 ≤ mflex) && decide (mflex ≤ ver)) t.u)) := by
  have hst := st_facts hX
  refine fn_calls hf hb hn (by simp) fun a0 hs hd ha => ?_
  have h0 := ha 0 _ rfl
  have h1 := ha 1 _ rfl
  have h2 := ha 2 _ rfl
  simp only [List.getElem_toArray, List.getElem_cons_zero, List.getElem_cons_succ] at h0 h1 h2
  have ht0 := ht
  cases ht with
  | mk n s tnull l u sb lb ub sc lc uc b o cs hs1 hsc hlc huc hll hrr htt hG hu =>
  refine SC.wp_seq (SC.wp_reg (ops_box (B := w.heap.size) (w0 := w) (by rw [eval_tmp, h0]; rfl) (Nat.le_refl _) (Below.refl _ _) fun w1 q1 q2 q3 hc q5 => ?_))
  refine ops_box (B := w.heap.size) (w0 := w) (cs := #[.int .i64 n, .slice sb s.length sc, .bool tnull, .slice lb l.length lc, .slice ub u.length uc]) (by simp (disch := first | omega | (simp only [size_put]; omega)) [eval_tmp, eval_const, put_none, getT_put, getT_put_ne, h2, treV]) (by omega) q2 fun w2 r1 r2 r3 hd2 r5 => ?_
  repeat (first | (apply ops_1; (focus (simp (disch := first | omega | (simp only [size_put]; omega)) [qv, qcall, vop, iop, eval_tmp, eval_const, put_none, getT_put, getT_put_ne]; try rfl))) | (apply ops_y; (focus rfl); (focus (first | omega | (simp only [size_put]; omega))); (focus (simp (disch := first | omega | (simp only [size_put]; omega)) [put_none, getT_put, getT_put_ne]; done)); (focus (simp (disch := first | omega | (simp only [size_put]; omega)) [qv, qcall, vop, iop, eval_tmp, eval_const, put_none, getT_put, getT_put_ne]; try rfl))) | (apply ops_n; (focus rfl); (focus (first | omega | (simp only [size_put]; omega))); (focus (first | (left; simp (disch := first | omega | (simp only [size_put]; omega)) [put_none, getT_put, getT_put_ne]; done) | (right; simp (disch := first | omega | (simp only [size_put]; omega)) [put_none, getT_put, getT_put_ne]; done)))))
  refine ops_nil ?_
  have hc2 : ∀ j, w2.cell? ⟨w.heap.size, j, none⟩ = #[fv, .int .i64 mflex][j]? := fun j => by rw [r1.cell (by show w.heap.size < w1.heap.size; omega)]; exact hc j
  have hsz2 : w2.heap.size = w.heap.size + 2 := by omega
  rw [q3] at hd2 ⊢
  clear hc q1 q2 q3 q5 r1 r3 r5 w1
  have hT5 : rangeV w2 (w.heap.size + 1) 0 5 = some [.int .i64 n, .slice sb s.length sc, .bool tnull, .slice lb l.length lc, .slice ub u.length uc] := by simp [rangeV, hd2]
  refine SC.wp_seq (SC.wp_reg ?_)
  have fin : ∀ (flex : Bool) (a : Act), a.defers = [] → getT a 8 = fv → getT a 9 = .int .i64 ver → getT a 18 = .bool flex → getT a 5 = .pointer (some ⟨w.heap.size + 1, 0, none⟩) → a.tmps.size = 21 → (decide (0 ≤ mflex) && decide (mflex ≤ ver)) = flex → ∀ all, opsw P all [ld 19 X.T 5, cal 20 fPart [8, 9, 18, 19], asg 6 20] (Exit.then (SC.wp P .ret (bodyPost P fn (RetOwn X.U8 w (wFs ver (decide (0 ≤ mflex) && decide (mflex ≤ ver)) fs (Tree.mk n s tnull l u).l ++ wTags (decide (0 ≤ mflex) && decide (mflex ≤ ver)) (Tree.mk n s tnull l u).u)))) (bodyPost P fn (RetOwn X.U8 w (wFs ver (decide (0 ≤ mflex) && decide (mflex ≤ ver)) fs (Tree.mk n s tnull l u).l ++ wTags (decide (0 ≤ mflex) && decide (mflex ≤ ver)) (Tree.mk n s tnull l u).u))) .normal) a w2 := by
    intro flex a pd p8 p9 p18 p5 ps hfl all
    rw [hfl] at hl ⊢
    iterate 1 (first | (apply ops_1; (focus (simp (disch := first | omega | (simp only [size_put]; omega)) [qv, qcall, vop, iop, eval_tmp, eval_const, put_none, getT_put, getT_put_ne, hst, p5, hT5]; try rfl))) | (apply ops_y; (focus rfl); (focus (first | omega | (simp only [size_put]; omega))); (focus (simp (disch := first | omega | (simp only [size_put]; omega)) [put_none, getT_put, getT_put_ne, hst, p5, hT5]; done)); (focus (simp (disch := first | omega | (simp only [size_put]; omega)) [qv, qcall, vop, iop, eval_tmp, eval_const, put_none, getT_put, getT_put_ne, hst, p5, hT5]; try rfl))) | (apply ops_n; (focus rfl); (focus (first | omega | (simp only [size_put]; omega))); (focus (first | (left; simp (disch := first | omega | (simp only [size_put]; omega)) [put_none, getT_put, getT_put_ne, hst, p5, hT5]; done) | (right; simp (disch := first | omega | (simp only [size_put]; omega)) [put_none, getT_put, getT_put_ne]; done)))))
    refine ops_call oP (cP w2 fv ver flex _ _ (FsV.down r2 (by omega) hfv) (TV.down r2 (by omega) ht0) hl) (by simp (disch := first | omega | (simp only [size_put]; omega)) [eval_tmp, eval_const, put_none, getT_put, getT_put_ne, p8, p9, p18, treV]) ?_
    rintro e w3 ⟨v, rfl, o1, b1⟩
    refine ⟨v, rfl, ?_⟩
    repeat (first | (apply ops_1; (focus (simp (disch := first | omega | (simp only [size_put]; omega)) [qv, qcall, vop, iop, eval_tmp, eval_const, put_none, getT_put, getT_put_ne]; try rfl))) | (apply ops_y; (focus rfl); (focus (first | omega | (simp only [size_put]; omega))); (focus (simp (disch := first | omega | (simp only [size_put]; omega)) [put_none, getT_put, getT_put_ne]; done)); (focus (simp (disch := first | omega | (simp only [size_put]; omega)) [qv, qcall, vop, iop, eval_tmp, eval_const, put_none, getT_put, getT_put_ne]; try rfl))) | (apply ops_n; (focus rfl); (focus (first | omega | (simp only [size_put]; omega))); (focus (first | (left; simp (disch := first | omega | (simp only [size_put]; omega)) [put_none, getT_put, getT_put_ne]; done) | (right; simp (disch := first | omega | (simp only [size_put]; omega)) [put_none, getT_put, getT_put_ne]; done)))))
    refine ops_nil ?_
    simp only [Exit.then]
    refine SC.wp_ret (ret_tmp hr (by simp [defers_put, pd]) ⟨v, ?_, own_down o1 (by omega), r2.trans (b1.mono (by omega))⟩)
    simp (disch := first | omega | (simp only [size_put]; omega)) [eval_tmp, eval_const, put_none, getT_put, getT_put_ne]
  cases e1 : decide (0 ≤ mflex)
  · rw [e1] at fin
    iterate 12 (first | (apply ops_1; (focus (simp (disch := first | omega | (simp only [size_put]; omega)) [qv, qcall, vop, iop, eval_tmp, eval_const, put_none, getT_put, getT_put_ne, hst, hc2, hT5, h1, e1]; try rfl))) | (apply ops_y; (focus rfl); (focus (first | omega | (simp only [size_put]; omega))); (focus (simp (disch := first | omega | (simp only [size_put]; omega)) [put_none, getT_put, getT_put_ne, hst, hc2, hT5, h1, e1]; done)); (focus (simp (disch := first | omega | (simp only [size_put]; omega)) [qv, qcall, vop, iop, eval_tmp, eval_const, put_none, getT_put, getT_put_ne, hst, hc2, hT5, h1, e1]; try rfl))) | (apply ops_n; (focus rfl); (focus (first | omega | (simp only [size_put]; omega))); (focus (first | (left; simp (disch := first | omega | (simp only [size_put]; omega)) [put_none, getT_put, getT_put_ne, hst, hc2, hT5, h1, e1]; done) | (right; simp (disch := first | omega | (simp only [size_put]; omega)) [put_none, getT_put, getT_put_ne]; done)))))
    refine fin false _ (by simp [defers_put, hd]) (by simp (disch := first | omega | (simp only [size_put]; omega)) [eval_tmp, eval_const, put_none, getT_put, getT_put_ne]) (by simp (disch := first | omega | (simp only [size_put]; omega)) [eval_tmp, eval_const, put_none, getT_put, getT_put_ne]) (by simp (disch := first | omega | (simp only [size_put]; omega)) [eval_tmp, eval_const, put_none, getT_put, getT_put_ne]) (by simp (disch := first | omega | (simp only [size_put]; omega)) [eval_tmp, eval_const, put_none, getT_put, getT_put_ne]) (by simp [size_put, hs]) (by simp) _
  · cases e2 : decide (mflex ≤ ver)
    · rw [e1, e2] at fin
      iterate 12 (first | (apply ops_1; (focus (simp (disch := first | omega | (simp only [size_put]; omega)) [qv, qcall, vop, iop, eval_tmp, eval_const, put_none, getT_put, getT_put_ne, hst, hc2, hT5, h1, e1, e2]; try rfl))) | (apply ops_y; (focus rfl); (focus (first | omega | (simp only [size_put]; omega))); (focus (simp (disch := first | omega | (simp only [size_put]; omega)) [put_none, getT_put, getT_put_ne, hst, hc2, hT5, h1, e1, e2]; done)); (focus (simp (disch := first | omega | (simp only [size_put]; omega)) [qv, qcall, vop, iop, eval_tmp, eval_const, put_none, getT_put, getT_put_ne, hst, hc2, hT5, h1, e1, e2]; try rfl))) | (apply ops_n; (focus rfl); (focus (first | omega | (simp only [size_put]; omega))); (focus (first | (left; simp (disch := first | omega | (simp only [size_put]; omega)) [put_none, getT_put, getT_put_ne, hst, hc2, hT5, h1, e1, e2]; done) | (right; simp (disch := first | omega | (simp only [size_put]; omega)) [put_none, getT_put, getT_put_ne]; done)))))
      refine fin false _ (by simp [defers_put, hd]) (by simp (disch := first | omega | (simp only [size_put]; omega)) [eval_tmp, eval_const, put_none, getT_put, getT_put_ne]) (by simp (disch := first | omega | (simp only [size_put]; omega)) [eval_tmp, eval_const, put_none, getT_put, getT_put_ne]) (by simp (disch := first | omega | (simp only [size_put]; omega)) [eval_tmp, eval_const, put_none, getT_put, getT_put_ne]) (by simp (disch := first | omega | (simp only [size_put]; omega)) [eval_tmp, eval_const, put_none, getT_put, getT_put_ne]) (by simp [size_put, hs]) (by simp) _
    · rw [e1, e2] at fin
      iterate 12 (first | (apply ops_1; (focus (simp (disch := first | omega | (simp only [size_put]; omega)) [qv, qcall, vop, iop, eval_tmp, eval_const, put_none, getT_put, getT_put_ne, hst, hc2, hT5, h1, e1, e2]; try rfl))) | (apply ops_y; (focus rfl); (focus (first | omega | (simp only [size_put]; omega))); (focus (simp (disch := first | omega | (simp only [size_put]; omega)) [put_none, getT_put, getT_put_ne, hst, hc2, hT5, h1, e1, e2]; done)); (focus (simp (disch := first | omega | (simp only [size_put]; omega)) [qv, qcall, vop, iop, eval_tmp, eval_const, put_none, getT_put, getT_put_ne, hst, hc2, hT5, h1, e1, e2]; try rfl))) | (apply ops_n; (focus rfl); (focus (first | omega | (simp only [size_put]; omega))); (focus (first | (left; simp (disch := first | omega | (simp only [size_put]; omega)) [put_none, getT_put, getT_put_ne, hst, hc2, hT5, h1, e1, e2]; done) | (right; simp (disch := first | omega | (simp only [size_put]; omega)) [put_none, getT_put, getT_put_ne]; done)))))
      refine fin true _ (by simp [defers_put, hd]) (by simp (disch := first | omega | (simp only [size_put]; omega)) [eval_tmp, eval_const, put_none, getT_put, getT_put_ne]) (by simp (disch := first | omega | (simp only [size_put]; omega)) [eval_tmp, eval_const, put_none, getT_put, getT_put_ne]) (by simp (disch := first | omega | (simp only [size_put]; omega)) [eval_tmp, eval_const, put_none, getT_put, getT_put_ne]) (by simp (disch := first | omega | (simp only [size_put]; omega)) [eval_tmp, eval_const, put_none, getT_put, getT_put_ne]) (by simp [size_put, hs]) (by simp) _

theorem own_bytesAt {tU8 : Nat} {w : World} {B : Nat} {v : Value} {xs : Bytes} (h : Own tU8 w B v xs) : ∃ base cap, v = .slice base xs.length cap ∧ BytesAt w (fun k => k < w.heap.size) base xs := by
  rcases h.2 with ⟨rfl, h0⟩ | ⟨g, cap, cur, rfl, hBg, hg, _⟩
  · have : xs = [] := List.eq_nil_of_length_eq_zero h0
    subst this
    exact ⟨none, 0, rfl, .inl ⟨rfl, rfl⟩⟩
  · refine ⟨some ⟨g, 0, none⟩, cap, rfl, .inr ⟨g, 0, rfl, (Array.getElem?_eq_some_iff.1 hg).1, fun j u hu => ?_⟩⟩
    have hc : ∀ j u, (cellsOf xs)[j]? = some u → w.cell? ((⟨g, 0, none⟩ : Addr).add j) = some u := World.ownsRow.cells h rfl
    rw [← add_none]
    exact hc j _ (by simp [cellsOf, hu])

theorem same_ok (hX : stOK P X = true) (hm : P.follows .mixedOrders = true) (hf : P.funcs[f]? = some fn) (hb : fn.body.map strip = some (sc_Same X.Bs X.I X.U8)) (hn : fn.ntmps = 26) (hr : fn.results = #[.tmp 4])
    (w : World) (xs : Bytes) (b1 b2 : Option Addr) (c1 c2 : Nat) (h1 : BytesAt w (fun k => k < w.heap.size) b1 xs) (h2 : BytesAt w (fun k => k < w.heap.size) b2 xs) (hl : xs.length ≤ lim) :
    Calls P f #[.slice b1 xs.length c1, .slice b2 xs.length c2] w fun e w' => e = .returned (.bool true) ∧ Below w.heap.size w w' := by
  have hst := st_facts hX
  have hlim : lim = 70368744177664 := rfl
  refine fn_calls hf hb hn (by simp) fun a0 hs hd ha => ?_
  have k0 := ha 0 _ rfl
  have k1 := ha 1 _ rfl
  simp only [List.getElem_toArray, List.getElem_cons_zero, List.getElem_cons_succ] at k0 k1
  refine SC.wp_seq (SC.wp_reg ?_)
  repeat (first | (apply ops_1; (focus (simp (disch := first | omega | (simp only [size_put]; omega)) [qv, qcall, vop, iop, eval_tmp, eval_const, put_none, getT_put, getT_put_ne]; try rfl))) | (apply ops_y; (focus rfl); (focus (first | omega | (simp only [size_put]; omega))); (focus (simp (disch := first | omega | (simp only [size_put]; omega)) [put_none, getT_put, getT_put_ne]; done)); (focus (simp (disch := first | omega | (simp only [size_put]; omega)) [qv, qcall, vop, iop, eval_tmp, eval_const, put_none, getT_put, getT_put_ne]; try rfl))) | (apply ops_n; (focus rfl); (focus (first | omega | (simp only [size_put]; omega))); (focus (first | (left; simp (disch := first | omega | (simp only [size_put]; omega)) [put_none, getT_put, getT_put_ne]; done) | (right; simp (disch := first | omega | (simp only [size_put]; omega)) [put_none, getT_put, getT_put_ne]; done)))))
  refine ops_nil (SC.wp_seq (SC.wp_seq (SC.wp_reg ?_)))
  repeat (first | (apply ops_1; (focus (simp (disch := first | omega | (simp only [size_put]; omega)) [qv, qcall, vop, iop, eval_tmp, eval_const, put_none, getT_put, getT_put_ne, hst, k0, k1]; try rfl))) | (apply ops_y; (focus rfl); (focus (first | omega | (simp only [size_put]; omega))); (focus (simp (disch := first | omega | (simp only [size_put]; omega)) [put_none, getT_put, getT_put_ne, hst, k0, k1]; done)); (focus (simp (disch := first | omega | (simp only [size_put]; omega)) [qv, qcall, vop, iop, eval_tmp, eval_const, put_none, getT_put, getT_put_ne, hst, k0, k1]; try rfl))) | (apply ops_n; (focus rfl); (focus (first | omega | (simp only [size_put]; omega))); (focus (first | (left; simp (disch := first | omega | (simp only [size_put]; omega)) [put_none, getT_put, getT_put_ne, hst, k0, k1]; done) | (right; simp (disch := first | omega | (simp only [size_put]; omega)) [put_none, getT_put, getT_put_ne]; done)))))
  refine ops_nil (SC.wp_cond (t := false) (by simp (disch := first | omega | (simp only [size_put]; omega)) [eval_tmp, eval_const, put_none, getT_put, getT_put_ne]) ?_)
  rw [if_neg (by simp)]
  refine SC.wp_skip ?_
  simp only [Exit.then]
  refine SC.wp_seq (SC.wp_seq (SC.wp_reg ?_))
  repeat (first | (apply ops_1; (focus (simp (disch := first | omega | (simp only [size_put]; omega)) [qv, qcall, vop, iop, eval_tmp, eval_const, put_none, getT_put, getT_put_ne, hst, k0, k1]; try rfl))) | (apply ops_y; (focus rfl); (focus (first | omega | (simp only [size_put]; omega))); (focus (simp (disch := first | omega | (simp only [size_put]; omega)) [put_none, getT_put, getT_put_ne, hst, k0, k1]; done)); (focus (simp (disch := first | omega | (simp only [size_put]; omega)) [qv, qcall, vop, iop, eval_tmp, eval_const, put_none, getT_put, getT_put_ne, hst, k0, k1]; try rfl))) | (apply ops_n; (focus rfl); (focus (first | omega | (simp only [size_put]; omega))); (focus (first | (left; simp (disch := first | omega | (simp only [size_put]; omega)) [put_none, getT_put, getT_put_ne, hst, k0, k1]; done) | (right; simp (disch := first | omega | (simp only [size_put]; omega)) [put_none, getT_put, getT_put_ne]; done)))))
  refine ops_nil ?_
  simp only [Exit.then]
  refine SC.wp_block (SC.wp_loop (fun a4 w5 => ∃ (j : Nat), a4.tmps.size = 26 ∧ a4.defers = [] ∧ getT a4 0 = .slice b1 xs.length c1 ∧ getT a4 1 = .slice b2 xs.length c2 ∧ getT a4 12 = .int .i64 (xs.length : Int) ∧ getT a4 13 = .int .i64 (j : Int) ∧ j ≤ xs.length ∧ Below w.heap.size w w5)
    (fun a4 _ => match getT a4 13 with | .int _ m => (xs.length - m).toNat | _ => 0) ⟨0, by simp [size_put, hs], by simp [defers_put, hd], by simp (disch := first | omega | (simp only [size_put]; omega)) [eval_tmp, eval_const, put_none, getT_put, getT_put_ne, k0], by simp (disch := first | omega | (simp only [size_put]; omega)) [eval_tmp, eval_const, put_none, getT_put, getT_put_ne, k1], by simp (disch := first | omega | (simp only [size_put]; omega)) [eval_tmp, eval_const, put_none, getT_put, getT_put_ne], by simp (disch := first | omega | (simp only [size_put]; omega)) [eval_tmp, eval_const, put_none, getT_put, getT_put_ne], by omega, Below.refl _ _⟩ ?_)
  rintro a4 w5 ⟨j, q, qd, q0, q1, q12, q13, hj, hb5⟩
  refine SC.wp_seq (SC.wp_reg ?_)
  repeat (first | (apply ops_1; (focus (simp (disch := first | omega | (simp only [size_put]; omega)) [qv, qcall, vop, iop, eval_tmp, eval_const, put_none, getT_put, getT_put_ne, hst, q12, q13]; try rfl))) | (apply ops_y; (focus rfl); (focus (first | omega | (simp only [size_put]; omega))); (focus (simp (disch := first | omega | (simp only [size_put]; omega)) [put_none, getT_put, getT_put_ne, hst, q12, q13]; done)); (focus (simp (disch := first | omega | (simp only [size_put]; omega)) [qv, qcall, vop, iop, eval_tmp, eval_const, put_none, getT_put, getT_put_ne, hst, q12, q13]; try rfl))) | (apply ops_n; (focus rfl); (focus (first | omega | (simp only [size_put]; omega))); (focus (first | (left; simp (disch := first | omega | (simp only [size_put]; omega)) [put_none, getT_put, getT_put_ne, hst, q12, q13]; done) | (right; simp (disch := first | omega | (simp only [size_put]; omega)) [put_none, getT_put, getT_put_ne]; done)))))
  refine ops_nil ?_
  simp only [Exit.then]
  refine SC.wp_seq (SC.wp_cond (t := decide ((j : Int) < (xs.length : Int))) (by simp (disch := first | omega | (simp only [size_put]; omega)) [eval_tmp, eval_const, put_none, getT_put, getT_put_ne]) ?_)
  cases e1 : decide ((j : Int) < (xs.length : Int))
  · rw [if_neg (by simp)]
    refine SC.wp_exit ?_
    simp only [Exit.then, Exit.inBlock, if_true]
    refine SC.wp_seq (SC.wp_reg ?_)
    repeat (first | (apply ops_1; (focus (simp (disch := first | omega | (simp only [size_put]; omega)) [qv, qcall, vop, iop, eval_tmp, eval_const, put_none, getT_put, getT_put_ne]; try rfl))) | (apply ops_y; (focus rfl); (focus (first | omega | (simp only [size_put]; omega))); (focus (simp (disch := first | omega | (simp only [size_put]; omega)) [put_none, getT_put, getT_put_ne]; done)); (focus (simp (disch := first | omega | (simp only [size_put]; omega)) [qv, qcall, vop, iop, eval_tmp, eval_const, put_none, getT_put, getT_put_ne]; try rfl))) | (apply ops_n; (focus rfl); (focus (first | omega | (simp only [size_put]; omega))); (focus (first | (left; simp (disch := first | omega | (simp only [size_put]; omega)) [put_none, getT_put, getT_put_ne]; done) | (right; simp (disch := first | omega | (simp only [size_put]; omega)) [put_none, getT_put, getT_put_ne]; done)))))
    refine ops_nil (SC.wp_ret (ret_tmp hr (by simp [defers_put, qd]) ⟨?_, hb5⟩))
    simp (disch := first | omega | (simp only [size_put]; omega)) [eval_tmp, eval_const, put_none, getT_put, getT_put_ne]
  · have hjl : j < xs.length := by simp at e1; omega
    rw [if_pos rfl]
    refine SC.wp_skip ?_
    simp only [Exit.then]
    rcases h1 with ⟨_, e⟩ | ⟨g1, o1, rfl, hg1, hc1⟩
    · subst e; simp at hjl
    rcases h2 with ⟨_, e⟩ | ⟨g2, o2, rfl, hg2, hc2⟩
    · subst e; simp at hjl
    have hx := List.getElem?_eq_getElem hjl
    have hd1 : w5.drew.cell? ⟨g1, o1 + j, none⟩ = some (cell xs[j]) := (World.cell?_of_block (w := w) (w' := w5.drew) (a := ⟨g1, o1 + j, none⟩) (hb5.block g1 hg1)).trans (hc1 j _ hx)
    have hd2 : w5.drew.cell? ⟨g2, o2 + j, none⟩ = some (cell xs[j]) := (World.cell?_of_block (w := w) (w' := w5.drew) (a := ⟨g2, o2 + j, none⟩) (hb5.block g2 hg2)).trans (hc2 j _ hx)
    have ej : (0 : Int) ≤ (j : Int) ∧ (j : Int) < (xs.length : Int) := by omega
    have hcell : cell xs[j] = .int .u8 (xs[j].toNat : Int) := rfl
    rw [hcell] at hd1 hd2
    generalize xs[j].toNat = cj at *
    refine SC.wp_seq (SC.wp_block (SC.wp_seq (SC.wp_reg ?_)))
    repeat (first | (apply ops_1; (focus (simp (disch := first | omega | (simp only [size_put]; omega)) [qv, qcall, vop, iop, eval_tmp, eval_const, put_none, getT_put, getT_put_ne, q13]; try rfl))) | (apply ops_y; (focus rfl); (focus (first | omega | (simp only [size_put]; omega))); (focus (simp (disch := first | omega | (simp only [size_put]; omega)) [put_none, getT_put, getT_put_ne, q13]; done)); (focus (simp (disch := first | omega | (simp only [size_put]; omega)) [qv, qcall, vop, iop, eval_tmp, eval_const, put_none, getT_put, getT_put_ne, q13]; try rfl))) | (apply ops_n; (focus rfl); (focus (first | omega | (simp only [size_put]; omega))); (focus (first | (left; simp (disch := first | omega | (simp only [size_put]; omega)) [put_none, getT_put, getT_put_ne, q13]; done) | (right; simp (disch := first | omega | (simp only [size_put]; omega)) [put_none, getT_put, getT_put_ne]; done)))))
    refine ops_nil ?_
    simp only [Exit.then]
    refine SC.wp_seq (SC.wp_dreg hm (Below w.heap.size w5.drew) [(0, true), (1, true), (2, true), (3, true), (4, true), (5, true), (6, true), (7, true), (8, true)] (by rfl) (by rfl) (by decide) (Below.refl _ _) ?_)
    repeat (first | (apply dr_1; (focus rfl); (focus (simp (disch := first | omega | (simp only [size_put]; omega)) [qv, qcall, vop, iop, eval_tmp, eval_const, put_none, getT_put, getT_put_ne, hst, q0, q1, ej, hd1, hd2, hg1, hg2, hjl]; try rfl))) | (apply dr_y; (focus rfl); (focus rfl); (focus (first | omega | (simp only [size_put]; omega))); (focus (simp (disch := first | omega | (simp only [size_put]; omega)) [put_none, getT_put, getT_put_ne, hst, q0, q1, ej, hd1, hd2, hg1, hg2, hjl]; done)); (focus (simp (disch := first | omega | (simp only [size_put]; omega)) [qv, qcall, vop, iop, eval_tmp, eval_const, put_none, getT_put, getT_put_ne, hst, q0, q1, ej, hd1, hd2, hg1, hg2, hjl]; try rfl))) | (apply dr_n; (focus rfl); (focus rfl); (focus (first | omega | (simp only [size_put]; omega))); (focus (first | (left; simp (disch := first | omega | (simp only [size_put]; omega)) [put_none, getT_put, getT_put_ne, hst, q0, q1, ej, hd1, hd2, hg1, hg2, hjl]; done) | (right; simp (disch := first | omega | (simp only [size_put]; omega)) [put_none, getT_put, getT_put_ne]; done)))))
    refine dreg_nil ?_
    simp only [Exit.then]
    refine SC.wp_cond (t := false) (by simp (disch := first | omega | (simp only [size_put]; omega)) [eval_tmp, eval_const, put_none, getT_put, getT_put_ne]) ?_
    rw [if_neg (by simp)]
    refine SC.wp_skip ?_
    simp only [Exit.inBlock, Exit.then]
    have ew : IntKind.i64.wrap ((j : Int) + 1) = ((j + 1 : Nat) : Int) := by rw [wrap_i64']; split <;> omega
    refine SC.wp_reg ?_
    repeat (first | (apply ops_1; (focus (simp (disch := first | omega | (simp only [size_put]; omega)) [qv, qcall, vop, iop, eval_tmp, eval_const, put_none, getT_put, getT_put_ne, q13, ew]; try rfl))) | (apply ops_y; (focus rfl); (focus (first | omega | (simp only [size_put]; omega))); (focus (simp (disch := first | omega | (simp only [size_put]; omega)) [put_none, getT_put, getT_put_ne, q13, ew]; done)); (focus (simp (disch := first | omega | (simp only [size_put]; omega)) [qv, qcall, vop, iop, eval_tmp, eval_const, put_none, getT_put, getT_put_ne, q13, ew]; try rfl))) | (apply ops_n; (focus rfl); (focus (first | omega | (simp only [size_put]; omega))); (focus (first | (left; simp (disch := first | omega | (simp only [size_put]; omega)) [put_none, getT_put, getT_put_ne, q13, ew]; done) | (right; simp (disch := first | omega | (simp only [size_put]; omega)) [put_none, getT_put, getT_put_ne]; done)))))
    refine ops_nil ?_
    refine ⟨⟨j + 1, by simp [size_put, q], by simp [defers_put, qd], by simp (disch := first | omega | (simp only [size_put]; omega)) [eval_tmp, eval_const, put_none, getT_put, getT_put_ne, q0], by simp (disch := first | omega | (simp only [size_put]; omega)) [eval_tmp, eval_const, put_none, getT_put, getT_put_ne, q1], by simp (disch := first | omega | (simp only [size_put]; omega)) [eval_tmp, eval_const, put_none, getT_put, getT_put_ne, q12], by simp (disch := first | omega | (simp only [size_put]; omega)) [eval_tmp, eval_const, put_none, getT_put, getT_put_ne], by omega, hb5.drew⟩, ?_⟩
    rw [q13]
    simp (disch := first | omega | (simp only [size_put]; omega)) [eval_tmp, eval_const, put_none, getT_put, getT_put_ne]; omega

theorem opw_rem {a : Act} {w : World} {K : Act → World → Prop} {d : Option Tmp} {g : Option (Nat × Bool)} {T T' : TypeId} {x y : Operand} {m n : Nat} (hx : a.eval x = .int .i64 (m : Int)) (hy : a.eval y = .int .i64 (n : Int)) (hn : 0 < n) (h : K (a.put d (.int .i64 ((m % n : Nat) : Int))) w) :
    opw P ⟨d, .binOp .rem T x y T', g⟩ a w K := by
  refine opw_value (by simp) (fun p hp => ?_) h
  have hne : ¬ n = 0 := by omega
  simp [execOp, hp, hx, hy, run_eqGuard_int, binOp, Op.intDiv, hne]
  exact Int.tmod_eq_emod_of_nonneg (by omega)

theorem version_ok (hX : stOK P X = true) (hf : P.funcs[f]? = some fn) (hb : fn.body.map strip = some (sc_version X.U8 X.I)) (hn : fn.ntmps = 10) (hr : fn.results = #[.tmp 4]) (w : World) (n m : Nat) (hn8 : n < 256) (hm16 : m < 65536) :
    Calls P f #[.int .u8 (n : Int), .int .i64 (m : Int)] w fun e w' => e = .returned (.int .i64 ((n % (m + 1) : Nat) : Int)) ∧ w = w' := by
  have hst := st_facts hX
  refine fn_calls hf hb hn (by simp) fun a0 hs hd ha => ?_
  have k0 := ha 0 _ rfl
  have k1 := ha 1 _ rfl
  simp only [List.getElem_toArray, List.getElem_cons_zero, List.getElem_cons_succ] at k0 k1
  have e1 : IntKind.i64.wrap (n : Int) = (n : Int) := by rw [wrap_i64']; split <;> omega
  have e2 : IntKind.i64.wrap ((m : Int) + 1) = ((m + 1 : Nat) : Int) := by rw [wrap_i64']; split <;> omega
  refine SC.wp_seq (SC.wp_reg ?_)
  repeat (first | (apply ops_1; (focus (simp (disch := first | omega | (simp only [size_put]; omega)) [qv, qcall, vop, iop, eval_tmp, eval_const, put_none, getT_put, getT_put_ne]; try rfl))) | (apply ops_y; (focus rfl); (focus (first | omega | (simp only [size_put]; omega))); (focus (simp (disch := first | omega | (simp only [size_put]; omega)) [put_none, getT_put, getT_put_ne]; done)); (focus (simp (disch := first | omega | (simp only [size_put]; omega)) [qv, qcall, vop, iop, eval_tmp, eval_const, put_none, getT_put, getT_put_ne]; try rfl))) | (apply ops_n; (focus rfl); (focus (first | omega | (simp only [size_put]; omega))); (focus (first | (left; simp (disch := first | omega | (simp only [size_put]; omega)) [put_none, getT_put, getT_put_ne]; done) | (right; simp (disch := first | omega | (simp only [size_put]; omega)) [put_none, getT_put, getT_put_ne]; done)))))
  refine ops_nil (SC.wp_seq (SC.wp_reg ?_))
  iterate 4 (first | (apply ops_1; (focus (simp (disch := first | omega | (simp only [size_put]; omega)) [qv, qcall, vop, iop, eval_tmp, eval_const, put_none, getT_put, getT_put_ne, hst, k0, k1, e1, e2]; try rfl))) | (apply ops_y; (focus rfl); (focus (first | omega | (simp only [size_put]; omega))); (focus (simp (disch := first | omega | (simp only [size_put]; omega)) [put_none, getT_put, getT_put_ne, hst, k0, k1, e1, e2]; done)); (focus (simp (disch := first | omega | (simp only [size_put]; omega)) [qv, qcall, vop, iop, eval_tmp, eval_const, put_none, getT_put, getT_put_ne, hst, k0, k1, e1, e2]; try rfl))) | (apply ops_n; (focus rfl); (focus (first | omega | (simp only [size_put]; omega))); (focus (first | (left; simp (disch := first | omega | (simp only [size_put]; omega)) [put_none, getT_put, getT_put_ne, hst, k0, k1, e1, e2]; done) | (right; simp (disch := first | omega | (simp only [size_put]; omega)) [put_none, getT_put, getT_put_ne]; done)))))
  refine opsw_none rfl (opw_rem (m := n) (n := m + 1) (by simp (disch := first | omega | (simp only [size_put]; omega)) [eval_tmp, eval_const, put_none, getT_put, getT_put_ne]) (by simp (disch := first | omega | (simp only [size_put]; omega)) [eval_tmp, eval_const, put_none, getT_put, getT_put_ne]) (by omega) ?_)
  repeat (first | (apply ops_1; (focus (simp (disch := first | omega | (simp only [size_put]; omega)) [qv, qcall, vop, iop, eval_tmp, eval_const, put_none, getT_put, getT_put_ne]; try rfl))) | (apply ops_y; (focus rfl); (focus (first | omega | (simp only [size_put]; omega))); (focus (simp (disch := first | omega | (simp only [size_put]; omega)) [put_none, getT_put, getT_put_ne]; done)); (focus (simp (disch := first | omega | (simp only [size_put]; omega)) [qv, qcall, vop, iop, eval_tmp, eval_const, put_none, getT_put, getT_put_ne]; try rfl))) | (apply ops_n; (focus rfl); (focus (first | omega | (simp only [size_put]; omega))); (focus (first | (left; simp (disch := first | omega | (simp only [size_put]; omega)) [put_none, getT_put, getT_put_ne]; done) | (right; simp (disch := first | omega | (simp only [size_put]; omega)) [put_none, getT_put, getT_put_ne]; done)))))
  refine ops_nil (SC.wp_ret (ret_tmp hr (by simp [defers_put, hd]) ⟨?_, rfl⟩))
  simp (disch := first | omega | (simp only [size_put]; omega)) [eval_tmp, eval_const, put_none, getT_put, getT_put_ne]
end
end Go.Proofs.Ytioodpjcpadkoaa.K
