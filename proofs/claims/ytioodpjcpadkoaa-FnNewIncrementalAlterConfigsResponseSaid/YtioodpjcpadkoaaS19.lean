/- The laws on new messages, called. No condition. -/
import Derived.Test.YtioodpjcpadkoaaS18
namespace Go.Proofs.Ytioodpjcpadkoaa.K
open Go Go.RowKit Go.Proofs.Ytioodpjcpadkoaa.T
set_option linter.unusedSimpArgs false
set_option linter.unusedVariables false
set_option maxHeartbeats 4000000

section
variable {G : List (Nat × Bytes) → Prop} {P : Program} {X : STy} {f : FuncId} {fn : Func}

theorem lawNew_ok (hX : stOK P X = true) (hm : P.follows .mixedOrders = true) (hMt : arrB P X.M 2 = true) {fMax fSp fVer fNew fDef fWr fSame : FuncId} {m : Nat} (hm16 : m < 32768) (fs : Fs) (mflex : Int) (out : Int → Bytes)
    (oMax : FnOK P fMax) (cMax : ∀ w : World, Calls P fMax #[] w fun e w' => e = .returned (.int .i64 (m : Int)) ∧ Below w.heap.size w w')
    (oSp : FnOK P fSp) (cSp : ∀ w : World, Calls P fSp #[] w fun e w' => ∃ v, e = .returned (msgV v mflex) ∧ v.oneCell' = true ∧ FsV w' (fun k => w.heap.size ≤ k ∧ k < w'.heap.size) fs v ∧ Below w.heap.size w w')
    (oVer : FnOK P fVer) (cVer : ∀ (w : World) (n m : Nat), n < 256 → m < 65536 → Calls P fVer #[.int .u8 (n : Int), .int .i64 (m : Int)] w fun e w' => e = .returned (.int .i64 ((n % (m + 1) : Nat) : Int)) ∧ w = w')
    (oNew : FnOK P fNew) (cNew : ∀ (w : World) (ver : Nat), ver ≤ m → Calls P fNew #[.int .i64 (ver : Int)] w (RetOwn X.U8 w (out ver)))
    (oDef : FnOK P fDef) (cDef : DefC G P fDef fs)
    (oWr : FnOK P fWr) (cWr : ∀ (w : World) (fv : Value) (mflex ver : Int) (t : Tree) (tv : Value), FsV w (· < w.heap.size) fs fv → TV G w (· < w.heap.size) t tv → (wFs ver (decide (0 ≤ mflex) && decide (mflex ≤ ver)) fs t.l ++ wTags (decide (0 ≤ mflex) && decide (mflex ≤ ver)) t.u).length ≤ lim →
      Calls P fWr #[msgV fv mflex, .int .i64 ver, tv] w (RetOwn X.U8 w (wFs ver (decide (0 ≤ mflex) && decide (mflex ≤ ver)) fs t.l ++ wTags (decide (0 ≤ mflex) && decide (mflex ≤ ver)) t.u)))
    (oSame : FnOK P fSame) (cSame : ∀ (w : World) (xs : Bytes) (b1 b2 : Option Addr) (c1 c2 : Nat), BytesAt w (fun k => k < w.heap.size) b1 xs → BytesAt w (fun k => k < w.heap.size) b2 xs → xs.length ≤ lim → Calls P fSame #[.slice b1 xs.length c1, .slice b2 xs.length c2] w fun e w' => e = .returned (.bool true) ∧ Below w.heap.size w w')
    (hout : ∀ ver : Nat, ver ≤ m → out ver = wFs ver (decide (0 ≤ mflex) && decide (mflex ≤ (ver : Int))) fs (defL fs) ++ wTags (decide (0 ≤ mflex) && decide (mflex ≤ (ver : Int))) []) (hlen : ∀ ver : Nat, ver ≤ m → (out ver).length ≤ lim)
    (hf : P.funcs[f]? = some fn) (hb : fn.body.map strip = some (sc_LawNew fMax fSp fVer fNew fDef fWr fSame X.I X.M X.Fs)) (hn : fn.ntmps = 22) (hr : fn.results = #[.tmp 2]) (w : World) (n : Nat) (hn8 : n < 256) :
    Calls P f #[.int .u8 (n : Int)] w fun e w' => e = .returned (.bool true) ∧ Below w.heap.size w w' := by
  have hst := st_facts hX
  obtain ⟨hM1, iM, zM, hiM, hzM, hzMs⟩ := arr_of hMt
  refine fn_calls hf hb hn (by simp) fun a0 hs hd ha => ?_
  have k0 := ha 0 _ rfl
  simp only [List.getElem_toArray, List.getElem_cons_zero, List.getElem_cons_succ] at k0
  refine SC.wp_seq (SC.wp_reg ?_)
  repeat (first | (apply ops_1; (focus (simp (disch := first | omega | (simp only [size_put]; omega)) [qv, qcall, vop, iop, eval_tmp, eval_const, put_none, getT_put, getT_put_ne]; try rfl))) | (apply ops_y; (focus rfl); (focus (first | omega | (simp only [size_put]; omega))); (focus (simp (disch := first | omega | (simp only [size_put]; omega)) [put_none, getT_put, getT_put_ne]; done)); (focus (simp (disch := first | omega | (simp only [size_put]; omega)) [qv, qcall, vop, iop, eval_tmp, eval_const, put_none, getT_put, getT_put_ne]; try rfl))) | (apply ops_n; (focus rfl); (focus (first | omega | (simp only [size_put]; omega))); (focus (first | (left; simp (disch := first | omega | (simp only [size_put]; omega)) [put_none, getT_put, getT_put_ne]; done) | (right; simp (disch := first | omega | (simp only [size_put]; omega)) [put_none, getT_put, getT_put_ne]; done)))))
  refine ops_nil (SC.wp_seq (SC.wp_reg (ops_cal oMax (cMax w) ?_)))
  rintro e w1 ⟨rfl, hb1⟩
  refine ⟨_, rfl, ?_⟩
  repeat (first | (apply ops_1; (focus (simp (disch := first | omega | (simp only [size_put]; omega)) [qv, qcall, vop, iop, eval_tmp, eval_const, put_none, getT_put, getT_put_ne]; try rfl))) | (apply ops_y; (focus rfl); (focus (first | omega | (simp only [size_put]; omega))); (focus (simp (disch := first | omega | (simp only [size_put]; omega)) [put_none, getT_put, getT_put_ne]; done)); (focus (simp (disch := first | omega | (simp only [size_put]; omega)) [qv, qcall, vop, iop, eval_tmp, eval_const, put_none, getT_put, getT_put_ne]; try rfl))) | (apply ops_n; (focus rfl); (focus (first | omega | (simp only [size_put]; omega))); (focus (first | (left; simp (disch := first | omega | (simp only [size_put]; omega)) [put_none, getT_put, getT_put_ne]; done) | (right; simp (disch := first | omega | (simp only [size_put]; omega)) [put_none, getT_put, getT_put_ne]; done)))))
  refine ops_nil (SC.wp_seq (SC.wp_seq (SC.wp_reg ?_)))
  have em : decide ((m : Int) < 0) = false := by simp
  repeat (first | (apply ops_1; (focus (simp (disch := first | omega | (simp only [size_put]; omega)) [qv, qcall, vop, iop, eval_tmp, eval_const, put_none, getT_put, getT_put_ne, em]; try rfl))) | (apply ops_y; (focus rfl); (focus (first | omega | (simp only [size_put]; omega))); (focus (simp (disch := first | omega | (simp only [size_put]; omega)) [put_none, getT_put, getT_put_ne, em]; done)); (focus (simp (disch := first | omega | (simp only [size_put]; omega)) [qv, qcall, vop, iop, eval_tmp, eval_const, put_none, getT_put, getT_put_ne, em]; try rfl))) | (apply ops_n; (focus rfl); (focus (first | omega | (simp only [size_put]; omega))); (focus (first | (left; simp (disch := first | omega | (simp only [size_put]; omega)) [put_none, getT_put, getT_put_ne, em]; done) | (right; simp (disch := first | omega | (simp only [size_put]; omega)) [put_none, getT_put, getT_put_ne]; done)))))
  refine ops_nil (SC.wp_cond (t := false) (by simp (disch := first | omega | (simp only [size_put]; omega)) [eval_tmp, eval_const, put_none, getT_put, getT_put_ne]) ?_)
  rw [if_neg (by simp)]
  refine SC.wp_skip ?_
  simp only [Exit.then]
  refine SC.wp_seq (SC.wp_reg (ops_cal oSp (cSp w1) ?_))
  rintro e w2 ⟨fv, rfl, hfv1, hfv, hb2⟩
  refine ⟨_, rfl, opsw_none rfl (opw_alloc hiM hzM ?_)⟩
  refine opsw_none rfl (opw_store_agg (b := w2.heap.size) (cs := [fv, .int .i64 mflex]) hM1 (by simp (disch := first | omega | (simp only [size_put]; omega)) [eval_tmp, eval_const, put_none, getT_put, getT_put_ne]) (by simp (disch := first | omega | (simp only [size_put]; omega)) [eval_tmp, eval_const, put_none, getT_put, getT_put_ne, msgV]) (heap_alloc_new w2 _) (by simp [hzMs]) (by
    intro v hv
    simp only [List.mem_cons, List.not_mem_nil, or_false] at hv
    rcases hv with rfl | rfl
    · exact hfv1
    · rfl) (ops_nil ?_))
  have hnew : ((w2.alloc (.cells zM.cells X.M)).setRow w2.heap.size #[fv, .int .i64 mflex]).heap[w2.heap.size]? = some (.cells #[fv, .int .i64 mflex] X.M (0, 0)) := setRow_heap _ _ _ _ _ _ (heap_alloc_new w2 _)
  have hb3 : Below w2.heap.size w2 ((w2.alloc (.cells zM.cells X.M)).setRow w2.heap.size #[fv, .int .i64 mflex]) := below_setRow ((Below.refl _ _).alloc (Nat.le_refl _) _) (Nat.le_refl _) _
  have hs3 : ((w2.alloc (.cells zM.cells X.M)).setRow w2.heap.size #[fv, .int .i64 mflex]).heap.size = w2.heap.size + 1 := by simp
  simp only [Exit.then, put_none]
  generalize ((w2.alloc (.cells zM.cells X.M)).setRow w2.heap.size #[fv, .int .i64 mflex]) = w3 at *
  have hs1 := hb1.size
  have hs2 := hb2.size
  have hbw3 : Below w.heap.size w w3 := hb1.trans ((hb2.mono hs1).trans (hb3.mono (by omega)))
  have hc : ∀ i, w3.drew.cell? ⟨w2.heap.size, i, none⟩ = #[fv, .int .i64 mflex][i]? := fun i => cell_of_row _ _ _ _ _ _ (show w3.drew.heap[w2.heap.size]? = _ from hnew)
  have hM2 : rangeV w3.drew w2.heap.size 0 2 = some [fv, .int .i64 mflex] := by simp [rangeV, hc]
  have hvm : n % (m + 1) ≤ m := by have := Nat.mod_lt n (show 0 < m + 1 by omega); omega
  have hlt : w2.heap.size < w2.heap.size + 1 := by omega
  refine gen_act (fun a => a.tmps.size = 22 ∧ a.defers = [] ∧ getT a 0 = .int .u8 (n : Int) ∧ getT a 3 = .int .i64 (m : Int) ∧ getT a 4 = .pointer (some ⟨w2.heap.size, 0, none⟩))
    ⟨by simp [size_put, hs], by simp [defers_put, hd], by simp (disch := first | omega | (simp only [size_put]; omega)) [eval_tmp, eval_const, put_none, getT_put, getT_put_ne, k0], by simp (disch := first | omega | (simp only [size_put]; omega)) [eval_tmp, eval_const, put_none, getT_put, getT_put_ne], by simp (disch := first | omega | (simp only [size_put]; omega)) [eval_tmp, eval_const, put_none, getT_put, getT_put_ne]⟩ ?_
  rintro a ⟨z, zd, z0, z3, z4⟩
  refine SC.wp_seq (SC.wp_dreg hm (Below (w2.heap.size + 1) w3.drew) [(0, true), (1, true), (4, true), (5, true), (6, true), (8, true), (9, true), (2, false), (3, false), (7, false), (10, false), (11, false), (12, false), (13, true)] (by rfl) (by rfl) (by decide) (Below.refl _ _) ?_)
  iterate 7 (first | (apply dr_1; (focus rfl); (focus (simp (disch := first | omega | (simp only [size_put]; omega)) [qv, qcall, vop, iop, eval_tmp, eval_const, put_none, getT_put, getT_put_ne, hst, z0, z3, z4, hlt, hc, hM2]; try rfl))) | (apply dr_y; (focus rfl); (focus rfl); (focus (first | omega | (simp only [size_put]; omega))); (focus (simp (disch := first | omega | (simp only [size_put]; omega)) [put_none, getT_put, getT_put_ne, hst, z0, z3, z4, hlt, hc, hM2]; done)); (focus (simp (disch := first | omega | (simp only [size_put]; omega)) [qv, qcall, vop, iop, eval_tmp, eval_const, put_none, getT_put, getT_put_ne, hst, z0, z3, z4, hlt, hc, hM2]; try rfl))) | (apply dr_n; (focus rfl); (focus rfl); (focus (first | omega | (simp only [size_put]; omega))); (focus (first | (left; simp (disch := first | omega | (simp only [size_put]; omega)) [put_none, getT_put, getT_put_ne, hst, z0, z3, z4, hlt, hc, hM2]; done) | (right; simp (disch := first | omega | (simp only [size_put]; omega)) [put_none, getT_put, getT_put_ne]; done)))))
  refine dreg_call rfl oVer (cVer w3.drew n m hn8 (by omega)) (by simp (disch := first | omega | (simp only [size_put]; omega)) [eval_tmp, eval_const, put_none, getT_put, getT_put_ne, z0, z3]) ?_
  rintro e w4 ⟨rfl, rfl⟩
  refine ⟨_, rfl, Below.refl _ _, ?_⟩
  refine dreg_call rfl oNew (cNew w3.drew (n % (m + 1)) hvm) (by simp (disch := first | omega | (simp only [size_put]; omega)) [eval_tmp, eval_const, put_none, getT_put, getT_put_ne]) ?_
  rintro e w4 ⟨v1, rfl, o1, b1⟩
  have b1 : Below w3.heap.size w3.drew w4 := b1
  have s4 : w3.heap.size ≤ w4.heap.size := b1.size
  refine ⟨v1, rfl, b1.mono (by omega), ?_⟩
  refine dreg_call rfl oVer (cVer w4 n m hn8 (by omega)) (by simp (disch := first | omega | (simp only [size_put]; omega)) [eval_tmp, eval_const, put_none, getT_put, getT_put_ne, z0, z3]) ?_
  rintro e w5 ⟨rfl, rfl⟩
  refine ⟨_, rfl, b1.mono (by omega), ?_⟩
  have hfv4 : FsV w4 (· < w4.heap.size) fs fv := hfv.mono (fun k hk => by have := hk.2; show k < w4.heap.size; omega) (fun k hk => (b1.block k (by have := hk.2; omega)).trans (hb3.block k hk.2))
  refine dreg_call rfl oDef (cDef w4 fv hfv4) (by simp (disch := first | omega | (simp only [size_put]; omega)) [eval_tmp, eval_const, put_none, getT_put, getT_put_ne]) ?_
  rintro e w5 ⟨tv, rfl, htv, b2⟩
  have s5 : w4.heap.size ≤ w5.heap.size := b2.size
  refine ⟨tv, rfl, (b1.mono (by omega)).trans (b2.mono (by omega)), ?_⟩
  have hout' := hout (n % (m + 1)) hvm
  have hlen' := hlen (n % (m + 1)) hvm
  refine dreg_call rfl oWr (cWr w5 fv mflex ((n % (m + 1) : Nat) : Int) _ tv (FsV.down b2 (by omega) hfv4) (htv.mono (fun k hk => hk.2) (fun _ _ => rfl)) (by simp only [Tree.l, Tree.u]; rw [← hout']; exact hlen')) (by simp (disch := first | omega | (simp only [size_put]; omega)) [eval_tmp, eval_const, put_none, getT_put, getT_put_ne, msgV]) ?_
  rintro e w6 ⟨v2, rfl, o2, b3⟩
  simp only [Tree.l, Tree.u] at o2
  rw [← hout'] at o2
  have s6 : w5.heap.size ≤ w6.heap.size := b3.size
  have hS6 : Below (w2.heap.size + 1) w3.drew w6 := (b1.mono (by omega)).trans ((b2.mono (by omega)).trans (b3.mono (by omega)))
  refine ⟨v2, rfl, hS6, ?_⟩
  have o16 : Own X.U8 w6 w3.heap.size v1 (out ((n % (m + 1) : Nat) : Int)) := own_keep (own_keep o1 b2) b3
  obtain ⟨p1, c1, rfl, q1⟩ := own_bytesAt o16
  obtain ⟨p2, c2, rfl, q2⟩ := own_bytesAt o2
  refine dreg_call rfl oSame (cSame w6 _ p1 p2 c1 c2 q1 q2 hlen') (by simp (disch := first | omega | (simp only [size_put]; omega)) [eval_tmp, eval_const, put_none, getT_put, getT_put_ne]) ?_
  rintro e w7 ⟨rfl, b4⟩
  refine ⟨_, rfl, hS6.trans (b4.mono (by omega)), ?_⟩
  repeat (first | (apply dr_1; (focus rfl); (focus (simp (disch := first | omega | (simp only [size_put]; omega)) [qv, qcall, vop, iop, eval_tmp, eval_const, put_none, getT_put, getT_put_ne]; try rfl))) | (apply dr_y; (focus rfl); (focus rfl); (focus (first | omega | (simp only [size_put]; omega))); (focus (simp (disch := first | omega | (simp only [size_put]; omega)) [put_none, getT_put, getT_put_ne]; done)); (focus (simp (disch := first | omega | (simp only [size_put]; omega)) [qv, qcall, vop, iop, eval_tmp, eval_const, put_none, getT_put, getT_put_ne]; try rfl))) | (apply dr_n; (focus rfl); (focus rfl); (focus (first | omega | (simp only [size_put]; omega))); (focus (first | (left; simp (disch := first | omega | (simp only [size_put]; omega)) [put_none, getT_put, getT_put_ne]; done) | (right; simp (disch := first | omega | (simp only [size_put]; omega)) [put_none, getT_put, getT_put_ne]; done)))))
  refine dreg_nil ?_
  simp only [Exit.then]
  refine SC.wp_ret (ret_tmp hr (by simp [defers_put, zd]) ⟨?_, hbw3.drew.trans ((hS6.trans (b4.mono (by omega))).mono (by omega))⟩)
  simp (disch := first | omega | (simp only [size_put]; omega)) [eval_tmp, eval_const, put_none, getT_put, getT_put_ne]

mutual
theorem subD_all {C : Fs → Prop} (hC : ∀ fs, Fs.len fs < 4294967296 → SubsD C fs → C fs) : ∀ ty, smallTy ty = true → SubD C ty
  | .prim _, _ => by simp [SubD]
  | .struct _ _ _ _ fs, h => by
    simp only [smallTy, Bool.and_eq_true, decide_eq_true_eq] at h
    simp only [SubD]
    exact hC fs h.1 (subsD_all hC fs h.2)
  | .list _ _ _ of, h => by simp [SubD]
theorem subsD_all {C : Fs → Prop} (hC : ∀ fs, Fs.len fs < 4294967296 → SubsD C fs → C fs) : ∀ fs, smallFs fs = true → SubsD C fs
  | .nil, _ => by simp [SubsD]
  | .cons h ty r, hh => by
    simp only [smallFs, Bool.and_eq_true] at hh
    simp only [SubsD]
    exact ⟨subD_all hC ty hh.1, subsD_all hC r hh.2⟩
end

/-- no more octets than this are written of a new part -/
theorem uvarint_small {n : Nat} (h : n ≤ 127) : (uvarint n).length = 1 := by rw [uvarint_lt h]; rfl
end
end Go.Proofs.Ytioodpjcpadkoaa.K
