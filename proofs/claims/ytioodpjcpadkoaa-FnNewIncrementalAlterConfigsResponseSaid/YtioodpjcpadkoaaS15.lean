/- The functions that make the reference's messages, called. No condition. -/
import Derived.Test.YtioodpjcpadkoaaS14
namespace Go.Proofs.Ytioodpjcpadkoaa.K
open Go Go.RowKit Go.Proofs.Ytioodpjcpadkoaa.T
set_option linter.unusedSimpArgs false
set_option linter.unusedVariables false
set_option maxHeartbeats 4000000

section
variable {P : Program} {X : STy} {f : FuncId} {fn : Func}

theorem bSlots_lt : ∀ (fs : Fs) (t : Nat), ∀ s ∈ bSlots fs t, s < bEnd fs t
  | .nil, _, s, h => by simp [bSlots] at h
  | .cons _ ty r, t, s, h => by
    simp only [bSlots, bEnd] at h ⊢
    cases hs : hasSub ty
    · simp only [hs, Bool.false_eq_true, if_false] at h ⊢
      rcases List.mem_cons.1 h with rfl | h
      · have := bEnd_ge r (s + 1); omega
      · exact bSlots_lt r (t + 1) s h
    · simp only [hs, if_true] at h ⊢
      rcases List.mem_cons.1 h with rfl | h
      · have := bEnd_ge r (t + 2); omega
      · exact bSlots_lt r (t + 2) s h

/-- the fields and their slice -/
theorem bSlice_ok (hX : stOK P X = true) (hF : fOK P X.F = true) (hS : P.underlying X.Fs = some (.slice X.F)) (fs : Fs) (subs : List Nat) (hfl : flatFs fs = true) (hsf : SubFns P fs subs) (hlen : 0 < Fs.len fs ∧ Fs.len fs ≤ 1000) {all r : List SOp} {K : Act → World → Prop} {a : Act} {w : World} (hsz : bEnd fs 1 < a.tmps.size)
    (h : ∀ (a' : Act) (w' : World) (v : Value), a'.tmps.size = a.tmps.size → a'.defers = a.defers → getT a' 0 = getT a 0 → getT a' (bEnd fs 1) = v → (∃ b l c, v = .slice b l c) → FsV w' (fun k => w.heap.size ≤ k ∧ k < w'.heap.size) fs v → Below w.heap.size w w' → opsw P all r K a' w') :
    opsw P all (bOps X.F fs subs 1 ++ bSlice X.Fs fs :: r) K a w := by
  have hst := st_facts hX
  have hF8 : ∃ i, P.info? X.F = some i ∧ i.size = 8 := by
    obtain ⟨i, hi, hs, _⟩ := agg_of (w := w) (aggB_of hst.2.2.1.2.1)
    exact ⟨i, hi, hs⟩
  refine bOps_ok hF fs subs 1 all _ K a w hfl hsf (by omega) ?_
  intro a' w' rows q qd qs qr qm qb
  obtain ⟨hrl, hr8⟩ := fsRows_len fs rows qr
  have h1 := bEnd_ge fs 1
  refine opsw_none rfl (opw_buildFs hF hS hF8 hrl.symm hlen.1 hlen.2 qm hr8 ?_)
  have hnew := heap_alloc_new w' (.cells rows.flatten.toArray X.F)
  have hbn : Below w'.heap.size w' (w'.alloc (.cells rows.flatten.toArray X.F)) := (Below.refl _ _).alloc (Nat.le_refl _) _
  have hsn : (w'.alloc (.cells rows.flatten.toArray X.F)).heap.size = w'.heap.size + 1 := by simp
  have hsw : w.heap.size ≤ w'.heap.size := qb.size
  generalize w'.alloc (.cells rows.flatten.toArray X.F) = w2 at *
  refine h _ w2 (.slice (some ⟨w'.heap.size, 0, none⟩) (Fs.len fs) (Fs.len fs)) (by rw [size_put, q]) (by rw [defers_put, qd]) (by rw [getT_put_ne (by omega), qs 0 (by omega)]) (by rw [getT_put (by omega)]) ⟨_, _, _, rfl⟩ ⟨_, _, rfl, .inr ⟨w'.heap.size, 0, rfl, ⟨by omega, by omega⟩, ?_⟩⟩ (qb.trans (hbn.mono hsw))
  refine fsAt_rows fs rows 0 (FsRows.mono (fun k hk => ⟨hk.1, by omega⟩) (fun k hk => hbn.block k hk.2) fs rows qr) (fun i v hv => ?_)
  rw [cell_of_row _ _ _ _ _ _ hnew]
  simpa using hv

theorem bSub_ok (hX : stOK P X = true) (hF : fOK P X.F = true) (hS : P.underlying X.Fs = some (.slice X.F)) (fs : Fs) (subs : List Nat) (hfl : flatFs fs = true) (hsf : SubFns P fs subs) (hlen : 0 < Fs.len fs ∧ Fs.len fs ≤ 1000)
    (hf : P.funcs[f]? = some fn) (hb : fn.body.map strip = some (sc_bSub X.F X.Fs fs subs)) (hn : fn.ntmps = bEnd fs 1 + 1) (hr : fn.results = #[.tmp 0]) (w : World) :
    Calls P f #[] w fun e w' => ∃ v, e = .returned v ∧ v.oneCell' = true ∧ FsV w' (fun k => w.heap.size ≤ k ∧ k < w'.heap.size) fs v ∧ Below w.heap.size w w' := by
  refine fn_calls hf hb hn (by simp) fun a0 hs hd ha => ?_
  refine SC.wp_seq (SC.wp_reg (opsw_none rfl (opw_assign (ops_nil ?_))))
  refine SC.wp_seq (SC.wp_reg ?_)
  refine bSlice_ok hX hF hS fs subs hfl hsf hlen (by rw [size_put, hs]; omega) ?_
  intro a' w' v q qd q0 qe hv qf qb
  refine ops_asg (ops_nil (SC.wp_ret (ret_tmp hr (by rw [defers_put, qd, defers_put, hd]) ⟨v, ?_, ?_, qf, qb⟩)))
  · rw [getT_put (by rw [q, size_put, hs]; omega), qe]
  · obtain ⟨b, l, c, rfl⟩ := hv; rfl

theorem bTop_ok (hX : stOK P X = true) (hF : fOK P X.F = true) (hS : P.underlying X.Fs = some (.slice X.F)) (hM : arrB P X.M 2 = true) (hMb : ∀ (n : Int) (b : Option Addr) (l c : Nat), P.built X.M [(1, .int .i64 n), (0, .slice b l c)] = some #[.slice b l c, .int .i64 n])
    (fs : Fs) (flex : Int) (subs : List Nat) (hfl : flatFs fs = true) (hsf : SubFns P fs subs) (hlen : 0 < Fs.len fs ∧ Fs.len fs ≤ 1000)
    (hf : P.funcs[f]? = some fn) (hb : fn.body.map strip = some (sc_bTop X.F X.Fs X.M fs flex subs)) (hn : fn.ntmps = bEnd fs 1 + 2) (hr : fn.results = #[.cell 0 X.M]) (w : World) :
    Calls P f #[] w fun e w' => ∃ v, e = .returned (msgV v flex) ∧ v.oneCell' = true ∧ FsV w' (fun k => w.heap.size ≤ k ∧ k < w'.heap.size) fs v ∧ Below w.heap.size w w' := by
  have hst := st_facts hX
  obtain ⟨hM1, iM, zM, hiM, hzM, hzMs⟩ := arr_of hM
  refine fn_calls hf hb hn (by simp) fun a0 hs hd ha => ?_
  refine SC.wp_seq (SC.wp_reg (opsw_none rfl (opw_alloc hiM hzM (ops_nil ?_))))
  have hnew := heap_alloc_new w (.cells zM.cells X.M)
  have hbn : Below w.heap.size w (w.alloc (.cells zM.cells X.M)) := (Below.refl _ _).alloc (Nat.le_refl _) _
  have hsn : (w.alloc (.cells zM.cells X.M)).heap.size = w.heap.size + 1 := by simp
  generalize w.alloc (.cells zM.cells X.M) = w1 at *
  refine SC.wp_seq (SC.wp_reg ?_)
  have hge := bEnd_ge fs 1
  refine bSlice_ok hX hF hS fs subs hfl hsf hlen (by rw [size_put, hs]; omega) ?_
  intro a' w' v q qd q0 qe hv qf qb
  rw [getT_put (by omega)] at q0
  rw [size_put, hs] at q
  rw [defers_put, hd] at qd
  obtain ⟨b, l, c, rfl⟩ := hv
  have hsw : w1.heap.size ≤ w'.heap.size := qb.size
  refine opsw_none rfl (opw_build (cs := #[.slice b l c, .int .i64 flex]) ?_ ?_)
  · rw [← hMb]
    congr 1
    simp [eval_const, eval_tmp, qe]
  have hn1 : w'.heap[w.heap.size]? = _ := (qb.block w.heap.size (by omega)).trans hnew
  refine opsw_none rfl (opw_store_agg (b := w.heap.size) (cs := [.slice b l c, .int .i64 flex]) hM1 ?_ ?_ hn1 (by simp [hzMs]) (by simp [Value.oneCell']) (ops_nil (SC.wp_ret ?_)))
  · rw [eval_tmp, getT_put_ne (by omega)]; exact q0
  · rw [eval_tmp, getT_put (by omega)]
  have hnf := setRow_heap w' w.heap.size _ #[Value.slice b l c, .int .i64 flex] _ _ hn1
  refine ret_cell hr (by simp [hst]) (b := w.heap.size) ?_ hnf (by rw [put_none, defers_put, qd]) ⟨.slice b l c, rfl, rfl, ?_, below_setRow (hbn.trans (qb.mono (by omega))) (Nat.le_refl _) _⟩
  · rw [put_none, getT_put_ne (by omega)]; exact q0
  · exact qf.mono (fun k hk => ⟨by omega, by simp; omega⟩) (fun k hk => setRow_other _ _ _ _ (by omega))
end
end Go.Proofs.Ytioodpjcpadkoaa.K
