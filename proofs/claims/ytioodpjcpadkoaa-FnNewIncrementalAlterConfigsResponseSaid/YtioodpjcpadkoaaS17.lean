/- The tags' functions where there are none. No condition. -/
import Derived.Test.YtioodpjcpadkoaaS16
namespace Go.Proofs.Ytioodpjcpadkoaa.K
open Go Go.RowKit Go.Proofs.Ytioodpjcpadkoaa.T
set_option linter.unusedSimpArgs false
set_option linter.unusedVariables false
set_option maxHeartbeats 4000000

def sc_TLen (T0 T1 : Nat) : SC := .seq (.reg [⟨some 2, .assign (.const (.int .i64 0)), none⟩]) (.seq (.reg [mv 3 0, nilc 4 3, fa 5 T0 4 0, ld 6 T1 5, lenOp 7 T1 6, asg 2 7]) (.ret))

def mapT (P : Program) (T : TypeId) : Bool :=
  match P.underlying T with
  | some (.map _ _) => true
  | _ => false

section
variable {P : Program} {f : FuncId} {fn : Func}

theorem opw_lenMap0 {a : Act} {w : World} {K : Act → World → Prop} {d : Option Tmp} {g : Option (Nat × Bool)} {T : TypeId} {x : Operand} {v : Value} {ts : Array TypeId} (hT : mapT P T = true) (hx : a.eval x = v) (ht : ts = #[T])
    (hv : v = .map none ∨ ∃ r clock, v = .map (some r) ∧ w.heap[r]? = some (.map #[] clock)) (h : K (a.put d (.int .i64 0)) w) : opw P ⟨d, .call ⟨.builtin .len, #[x], ts⟩, g⟩ a w K := by
  subst ht
  unfold mapT at hT
  split at hT <;> try (simp at hT; done)
  rename_i k e hu
  refine opw_value (v := .int .i64 0) (by simp) (fun p hp => ?_) h
  rcases hv with rfl | ⟨r, clock, rfl, hr⟩
  · simp [execOp, hp, hx, resolve, invoke, builtin, Builtin.len_, run_underlying hu, goInt]
  · simp [execOp, hp, hx, resolve, invoke, builtin, Builtin.len_, run_underlying hu, goInt, getObj, hr, Sem.run]

theorem hTags_nil {w : World} {F : Nat → Prop} {b o : Nat} (h : HTags (fun u => u = []) w F b o []) : ∃ v, w.cell? ⟨b, o, none⟩ = some v ∧ (v = .map none ∨ ∃ r clock, v = .map (some r) ∧ w.heap[r]? = some (.map #[] clock)) := by
  obtain ⟨_, _, _, _, h | ⟨r, es, clock, h1, _, h2, h3, _⟩⟩ := h
  · exact ⟨_, h.1, .inl rfl⟩
  · refine ⟨_, h1, .inr ⟨r, clock, rfl, ?_⟩⟩
    have : es = #[] := by
      have := h3.length_eq
      simp at this
      exact this
    rw [h2, this]

theorem tagsLen0_ok {TT TM : Nat} (hTM : mapT P TM = true) (h1 : oneB P TM = true) (hF0 : fieldOff P TT 0 = some 0) (hf : P.funcs[f]? = some fn) (hb : fn.body.map strip = some (sc_TLen TT TM)) (hn : fn.ntmps = 8) (hr : fn.results = #[.tmp 2])
    (w : World) (F : Nat → Prop) (b o : Nat) (u : List (Nat × Bytes)) (hu : HTags (fun u => u = []) w F b o u) : Calls P f #[.pointer (some ⟨b, o, none⟩)] w fun e w' => e = .returned (.int .i64 u.length) ∧ w = w' := by
  have hu0 : u = [] := hu.1
  subst hu0
  obtain ⟨v, hc, hv⟩ := hTags_nil hu
  refine fn_calls hf hb hn (by simp) fun a0 hs hd ha => ?_
  have h0 := ha 0 _ rfl
  simp only [List.getElem_toArray, List.getElem_cons_zero, List.getElem_cons_succ] at h0
  refine SC.wp_seq (SC.wp_reg ?_)
  repeat (first | (apply ops_1; (focus (simp (disch := first | omega | (simp only [size_put]; omega)) [qv, qcall, vop, iop, eval_tmp, eval_const, put_none, getT_put, getT_put_ne]; try rfl))) | (apply ops_y; (focus rfl); (focus (first | omega | (simp only [size_put]; omega))); (focus (simp (disch := first | omega | (simp only [size_put]; omega)) [put_none, getT_put, getT_put_ne]; done)); (focus (simp (disch := first | omega | (simp only [size_put]; omega)) [qv, qcall, vop, iop, eval_tmp, eval_const, put_none, getT_put, getT_put_ne]; try rfl))) | (apply ops_n; (focus rfl); (focus (first | omega | (simp only [size_put]; omega))); (focus (first | (left; simp (disch := first | omega | (simp only [size_put]; omega)) [put_none, getT_put, getT_put_ne]; done) | (right; simp (disch := first | omega | (simp only [size_put]; omega)) [put_none, getT_put, getT_put_ne]; done)))))
  refine ops_nil (SC.wp_seq (SC.wp_reg ?_))
  iterate 4 (first | (apply ops_1; (focus (simp (disch := first | omega | (simp only [size_put]; omega)) [qv, qcall, vop, iop, eval_tmp, eval_const, put_none, getT_put, getT_put_ne, h0, hF0, h1, hc]; try rfl))) | (apply ops_y; (focus rfl); (focus (first | omega | (simp only [size_put]; omega))); (focus (simp (disch := first | omega | (simp only [size_put]; omega)) [put_none, getT_put, getT_put_ne, h0, hF0, h1, hc]; done)); (focus (simp (disch := first | omega | (simp only [size_put]; omega)) [qv, qcall, vop, iop, eval_tmp, eval_const, put_none, getT_put, getT_put_ne, h0, hF0, h1, hc]; try rfl))) | (apply ops_n; (focus rfl); (focus (first | omega | (simp only [size_put]; omega))); (focus (first | (left; simp (disch := first | omega | (simp only [size_put]; omega)) [put_none, getT_put, getT_put_ne, h0, hF0, h1, hc]; done) | (right; simp (disch := first | omega | (simp only [size_put]; omega)) [put_none, getT_put, getT_put_ne]; done)))))
  refine opsw_none rfl (opw_lenMap0 (v := v) hTM (by simp (disch := first | omega | (simp only [size_put]; omega)) [eval_tmp, eval_const, put_none, getT_put, getT_put_ne]) rfl hv ?_)
  repeat (first | (apply ops_1; (focus (simp (disch := first | omega | (simp only [size_put]; omega)) [qv, qcall, vop, iop, eval_tmp, eval_const, put_none, getT_put, getT_put_ne]; try rfl))) | (apply ops_y; (focus rfl); (focus (first | omega | (simp only [size_put]; omega))); (focus (simp (disch := first | omega | (simp only [size_put]; omega)) [put_none, getT_put, getT_put_ne]; done)); (focus (simp (disch := first | omega | (simp only [size_put]; omega)) [qv, qcall, vop, iop, eval_tmp, eval_const, put_none, getT_put, getT_put_ne]; try rfl))) | (apply ops_n; (focus rfl); (focus (first | omega | (simp only [size_put]; omega))); (focus (first | (left; simp (disch := first | omega | (simp only [size_put]; omega)) [put_none, getT_put, getT_put_ne]; done) | (right; simp (disch := first | omega | (simp only [size_put]; omega)) [put_none, getT_put, getT_put_ne]; done)))))
  refine ops_nil (SC.wp_ret (ret_tmp hr (by simp [defers_put, hd]) ⟨?_, rfl⟩))
  simp (disch := first | omega | (simp only [size_put]; omega)) [eval_tmp, eval_const, put_none, getT_put, getT_put_ne]

def sc_TEach1 (TT TM TI : Nat) : SC := .seq (.reg [mv 8 0, nilc 9 8, fa 10 TT 9 0, ld 11 TM 10, lenOp 12 TM 11, ⟨some 13, .binOp .eql TI (.tmp 12) (.const (.int .i64 0)) TI, none⟩]) (.cond (.tmp 13) (.ret) (.skip))

/-- the function begins with 'if len(t) == 0 { return }' -/
theorem each0_ok {TT TM TI : Nat} {rest : SC} (hTM : mapT P TM = true) (h1 : oneB P TM = true) (hF0 : fieldOff P TT 0 = some 0) (hf : P.funcs[f]? = some fn) (hb : fn.body.map strip = some (.seq (sc_TEach1 TT TM TI) rest)) (hn : fn.ntmps = 53) (hr : fn.results = #[])
    (w : World) (F : Nat → Prop) (b o : Nat) (hu : HTags (fun u => u = []) w F b o []) (cl : Value) : Calls P f #[.pointer (some ⟨b, o, none⟩), cl] w fun e w' => e = .returned (.tuple #[]) ∧ w = w' := by
  obtain ⟨v, hc, hv⟩ := hTags_nil hu
  refine fn_calls hf hb hn (by simp) fun a0 hs hd ha => ?_
  have h0 := ha 0 _ rfl
  simp only [List.getElem_toArray, List.getElem_cons_zero, List.getElem_cons_succ] at h0
  refine SC.wp_seq (SC.wp_seq (SC.wp_reg ?_))
  iterate 4 (first | (apply ops_1; (focus (simp (disch := first | omega | (simp only [size_put]; omega)) [qv, qcall, vop, iop, eval_tmp, eval_const, put_none, getT_put, getT_put_ne, h0, hF0, h1, hc]; try rfl))) | (apply ops_y; (focus rfl); (focus (first | omega | (simp only [size_put]; omega))); (focus (simp (disch := first | omega | (simp only [size_put]; omega)) [put_none, getT_put, getT_put_ne, h0, hF0, h1, hc]; done)); (focus (simp (disch := first | omega | (simp only [size_put]; omega)) [qv, qcall, vop, iop, eval_tmp, eval_const, put_none, getT_put, getT_put_ne, h0, hF0, h1, hc]; try rfl))) | (apply ops_n; (focus rfl); (focus (first | omega | (simp only [size_put]; omega))); (focus (first | (left; simp (disch := first | omega | (simp only [size_put]; omega)) [put_none, getT_put, getT_put_ne, h0, hF0, h1, hc]; done) | (right; simp (disch := first | omega | (simp only [size_put]; omega)) [put_none, getT_put, getT_put_ne]; done)))))
  refine opsw_none rfl (opw_lenMap0 (v := v) hTM (by simp (disch := first | omega | (simp only [size_put]; omega)) [eval_tmp, eval_const, put_none, getT_put, getT_put_ne]) rfl hv ?_)
  repeat (first | (apply ops_1; (focus (simp (disch := first | omega | (simp only [size_put]; omega)) [qv, qcall, vop, iop, eval_tmp, eval_const, put_none, getT_put, getT_put_ne]; try rfl))) | (apply ops_y; (focus rfl); (focus (first | omega | (simp only [size_put]; omega))); (focus (simp (disch := first | omega | (simp only [size_put]; omega)) [put_none, getT_put, getT_put_ne]; done)); (focus (simp (disch := first | omega | (simp only [size_put]; omega)) [qv, qcall, vop, iop, eval_tmp, eval_const, put_none, getT_put, getT_put_ne]; try rfl))) | (apply ops_n; (focus rfl); (focus (first | omega | (simp only [size_put]; omega))); (focus (first | (left; simp (disch := first | omega | (simp only [size_put]; omega)) [put_none, getT_put, getT_put_ne]; done) | (right; simp (disch := first | omega | (simp only [size_put]; omega)) [put_none, getT_put, getT_put_ne]; done)))))
  refine ops_nil ?_
  simp only [Exit.then]
  refine SC.wp_cond (t := true) (by simp (disch := first | omega | (simp only [size_put]; omega)) [eval_tmp, eval_const, put_none, getT_put, getT_put_ne]) ?_
  rw [if_pos rfl]
  refine SC.wp_ret ?_
  simp only [Exit.then]
  refine bodyPost_ret_by (v := .tuple #[]) ?_ (by simp [defers_put, hd]) ⟨rfl, rfl⟩
  simp [results, hr]

def sc_TAppendEach (TB fEach : Nat) (g : Fn) : SC := .seq (.reg [⟨some 3, .box TB (.tmp 1), none⟩, ⟨some 4, .assign (.const (.slice none 0 0)), none⟩]) (.seq (.reg [mv 5 0, ⟨some 6, .makeFunc g #[] #[.tmp 3], none⟩, cal 7 fEach [5, 6]]) (.seq (.reg [ld 8 TB 3, asg 4 8]) .ret))

theorem appendEach0_ok {TB fEach tU8 : Nat} {g : Fn} (hTB : oneB P TB = true) (oE : FnOK P fEach) (cE : ∀ (w : World) (F : Nat → Prop) (b o : Nat), HTags (fun u => u = []) w F b o [] → ∀ cl, Calls P fEach #[.pointer (some ⟨b, o, none⟩), cl] w fun e w' => e = .returned (.tuple #[]) ∧ w = w')
    (hf : P.funcs[f]? = some fn) (hb : fn.body.map strip = some (sc_TAppendEach TB fEach g)) (hn : fn.ntmps = 9) (hr : fn.results = #[.tmp 4])
    (w : World) (B b o : Nat) (u : List (Nat × Bytes)) (dv : Value) (xs : Bytes) (hu : HTags (fun u => u = []) w (· < B) b o u) (hbB : b < B) (ho : Own tU8 w B dv xs) (hB : B ≤ w.heap.size) (hl : xs.length + (u.flatMap wTag).length ≤ lim) :
    Calls P f #[.pointer (some ⟨b, o, none⟩), dv] w fun e w' => ∃ dv', e = .returned dv' ∧ Own tU8 w' B dv' (xs ++ u.flatMap wTag) ∧ Below B w w' ∧ B ≤ w'.heap.size := by
  have hu0 : u = [] := hu.1
  subst hu0
  have h1 : dv.oneCell' = true := by rcases ho.2 with ⟨rfl, _⟩ | ⟨g, cap, cur, rfl, _⟩ <;> rfl
  refine fn_calls hf hb hn (by simp) fun a0 hs hd ha => ?_
  have h0 := ha 0 _ rfl
  have hd1 := ha 1 _ rfl
  simp only [List.getElem_toArray, List.getElem_cons_zero, List.getElem_cons_succ] at h0 hd1
  refine SC.wp_seq (SC.wp_reg (opsw_none rfl (opw_box (v := dv) (by rw [eval_tmp, hd1]) ?_)))
  rw [cells_oneCell h1]
  have hnew := heap_alloc_new w (.cells #[dv] TB)
  have hbn : Below B w (w.alloc (.cells #[dv] TB)) := (Below.refl _ _).alloc hB _
  have hon : Own tU8 (w.alloc (.cells #[dv] TB)) B dv xs := ho.alloc _
  have hsn : (w.alloc (.cells #[dv] TB)).heap.size = w.heap.size + 1 := by simp
  have hun : HTags (fun u => u = []) (w.alloc (.cells #[dv] TB)) (· < B) b o [] := by
    obtain ⟨q1, q2, q3, q4, q5⟩ := hu
    refine ⟨q1, q2, q3, q4, q5.imp ?_ ?_⟩
    · rintro ⟨z1, z2⟩
      exact ⟨by rw [hbn.cell (p := ⟨b, o, none⟩) hbB]; exact z1, z2⟩
    · rintro ⟨r, es, clock, z1, z2, z3, z4⟩
      refine ⟨r, es, clock, by rw [hbn.cell (p := ⟨b, o, none⟩) hbB]; exact z1, z2, by rw [hbn.block r z2]; exact z3, z4.1, fun e he x hx => by simp at hx⟩
  generalize w.alloc (.cells #[dv] TB) = w1 at *
  have hc : w1.cell? ⟨w.heap.size, 0, none⟩ = some dv := by rw [cell_of_row _ _ _ _ _ _ hnew]; rfl
  repeat (first | (apply ops_1; (focus (simp (disch := first | omega | (simp only [size_put]; omega)) [qv, qcall, vop, iop, eval_tmp, eval_const, put_none, getT_put, getT_put_ne]; try rfl))) | (apply ops_y; (focus rfl); (focus (first | omega | (simp only [size_put]; omega))); (focus (simp (disch := first | omega | (simp only [size_put]; omega)) [put_none, getT_put, getT_put_ne]; done)); (focus (simp (disch := first | omega | (simp only [size_put]; omega)) [qv, qcall, vop, iop, eval_tmp, eval_const, put_none, getT_put, getT_put_ne]; try rfl))) | (apply ops_n; (focus rfl); (focus (first | omega | (simp only [size_put]; omega))); (focus (first | (left; simp (disch := first | omega | (simp only [size_put]; omega)) [put_none, getT_put, getT_put_ne]; done) | (right; simp (disch := first | omega | (simp only [size_put]; omega)) [put_none, getT_put, getT_put_ne]; done)))))
  refine ops_nil (SC.wp_seq (SC.wp_reg ?_))
  iterate 1 (first | (apply ops_1; (focus (simp (disch := first | omega | (simp only [size_put]; omega)) [qv, qcall, vop, iop, eval_tmp, eval_const, put_none, getT_put, getT_put_ne, h0]; try rfl))) | (apply ops_y; (focus rfl); (focus (first | omega | (simp only [size_put]; omega))); (focus (simp (disch := first | omega | (simp only [size_put]; omega)) [put_none, getT_put, getT_put_ne, h0]; done)); (focus (simp (disch := first | omega | (simp only [size_put]; omega)) [qv, qcall, vop, iop, eval_tmp, eval_const, put_none, getT_put, getT_put_ne, h0]; try rfl))) | (apply ops_n; (focus rfl); (focus (first | omega | (simp only [size_put]; omega))); (focus (first | (left; simp (disch := first | omega | (simp only [size_put]; omega)) [put_none, getT_put, getT_put_ne, h0]; done) | (right; simp (disch := first | omega | (simp only [size_put]; omega)) [put_none, getT_put, getT_put_ne]; done)))))
  refine opsw_none rfl (opw_of fun o2 next Q hd2 hop hnn => ?_)
  have hop' := stripOp_eq (by simp) hop
  have hr2 : ∀ av : Operand → Value, ∃ v, (execOp av o2).run P w1 = .ok (.value v) w1 := by
    intro av
    simp [execOp, hop', Instr.makeFunc]
  obtain ⟨cl, hcl⟩ := hr2 _
  rw [hcl, Oper.upon_value, hd2]
  refine hnn _ _ ?_
  refine ops_call oE (cE w1 _ b o hun cl) (by simp (disch := first | omega | (simp only [size_put]; omega)) [eval_tmp, eval_const, put_none, getT_put, getT_put_ne]) ?_
  rintro e w2 ⟨rfl, rfl⟩
  refine ⟨_, rfl, ops_nil ?_⟩
  simp only [Exit.then]
  refine SC.wp_seq (SC.wp_reg ?_)
  repeat (first | (apply ops_1; (focus (simp (disch := first | omega | (simp only [size_put]; omega)) [qv, qcall, vop, iop, eval_tmp, eval_const, put_none, getT_put, getT_put_ne, hTB, hc]; try rfl))) | (apply ops_y; (focus rfl); (focus (first | omega | (simp only [size_put]; omega))); (focus (simp (disch := first | omega | (simp only [size_put]; omega)) [put_none, getT_put, getT_put_ne, hTB, hc]; done)); (focus (simp (disch := first | omega | (simp only [size_put]; omega)) [qv, qcall, vop, iop, eval_tmp, eval_const, put_none, getT_put, getT_put_ne, hTB, hc]; try rfl))) | (apply ops_n; (focus rfl); (focus (first | omega | (simp only [size_put]; omega))); (focus (first | (left; simp (disch := first | omega | (simp only [size_put]; omega)) [put_none, getT_put, getT_put_ne, hTB, hc]; done) | (right; simp (disch := first | omega | (simp only [size_put]; omega)) [put_none, getT_put, getT_put_ne]; done)))))
  refine ops_nil (SC.wp_ret (ret_tmp hr (by simp [defers_put, hd]) ⟨dv, ?_, by simpa using hon, hbn, by omega⟩))
  simp (disch := first | omega | (simp only [size_put]; omega)) [eval_tmp, eval_const, put_none, getT_put, getT_put_ne]
end
end Go.Proofs.Ytioodpjcpadkoaa.K
