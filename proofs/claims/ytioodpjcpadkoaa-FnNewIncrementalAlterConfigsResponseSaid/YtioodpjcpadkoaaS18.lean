/- A new message, written; the law. No condition. -/
import Derived.Test.YtioodpjcpadkoaaS17
namespace Go.Proofs.Ytioodpjcpadkoaa.K
open Go Go.RowKit Go.Proofs.Ytioodpjcpadkoaa.T
set_option linter.unusedSimpArgs false
set_option linter.unusedVariables false
set_option maxHeartbeats 4000000

/-- kmsg.NewPtrX -/
def sc_NewPtr (T fDef : Nat) : SC := .seq (.reg [⟨some 0, .assign (.const (.pointer none)), none⟩]) (.seq (.reg [⟨some 1, .alloc T, none⟩]) (.seq (.reg [cal 2 fDef [1]]) (.seq (.reg [asg 0 1]) .ret)))
/-- MaxVersion -/
def sc_MaxV (n : Int) : SC := .seq (.reg [⟨some 2, .assign (.const (.int .i16 0)), none⟩]) (.seq (.reg [⟨some 2, .assign (.const (.int .i16 n)), none⟩]) .ret)
/-- SetVersion -/
def sc_SetV (T T16 : Nat) : SC := .reg [mv 4 0, mv 5 1, nilc 6 4, fa 7 T 6 0, ⟨none, .store T16 (.tmp 7) (.tmp 5), none⟩]
/-- impl.MaxX -/
def sc_Max (fNP fMV T16 TI : Nat) : SC := .seq (.reg [⟨some 0, .assign (.const (.int .i64 0)), none⟩]) (.seq (.reg [cal 1 fNP [], cal 2 fMV [1], ⟨some 3, .convert T16 TI (.tmp 2), none⟩, asg 0 3]) .ret)
/-- impl.NewX -/
def sc_New (fNP fSV fAT TI T16 : Nat) : SC := .seq (.reg [⟨some 2, .assign (.const (.slice none 0 0)), none⟩]) (.seq (.reg [cal 4 fNP [], asg 3 4]) (.seq (.reg [mv 5 3, mv 6 0, ⟨some 7, .convert TI T16 (.tmp 6), none⟩, cal 8 fSV [5, 7]]) (.seq (.reg [mv 9 3, ⟨some 10, .call ⟨.value (.func fAT), #[.tmp 9, .const (.slice none 0 0)], #[]⟩, none⟩, asg 2 10]) .ret)))

section
variable {P : Program} {X : STy} {f : FuncId} {fn : Func}

/-- Default, of a new message: its cells become these -/
def DefFn (P : Program) (f T : Nat) (cs0 cs : Array Value) : Prop :=
  FnOK P f ∧ ∀ (w : World) (b : Nat), w.heap[b]? = some (.cells cs0 T (0, 0)) → Calls P f #[.pointer (some ⟨b, 0, none⟩)] w fun e w' => e = .returned (.tuple #[]) ∧ w' = w.setRow b cs

theorem newPtr_ok {T fDef : Nat} {cs0 cs : Array Value} (hT : ∃ i z, P.info? T = some i ∧ i.zero = some z ∧ z.cells = cs0) (hD : DefFn P fDef T cs0 cs) (hf : P.funcs[f]? = some fn) (hb : fn.body.map strip = some (sc_NewPtr T fDef)) (hn : fn.ntmps = 3) (hr : fn.results = #[.tmp 0]) (w : World) :
    Calls P f #[] w fun e w' => ∃ b, e = .returned (.pointer (some ⟨b, 0, none⟩)) ∧ w.heap.size ≤ b ∧ w'.heap[b]? = some (.cells cs T (0, 0)) ∧ Below w.heap.size w w' := by
  obtain ⟨i, z, hi, hz, rfl⟩ := hT
  refine fn_calls hf hb hn (by simp) fun a0 hs hd ha => ?_
  refine SC.wp_seq (SC.wp_reg ?_)
  repeat (first | (apply ops_1; (focus (simp (disch := first | omega | (simp only [size_put]; omega)) [qv, qcall, vop, iop, eval_tmp, eval_const, put_none, getT_put, getT_put_ne]; try rfl))) | (apply ops_y; (focus rfl); (focus (first | omega | (simp only [size_put]; omega))); (focus (simp (disch := first | omega | (simp only [size_put]; omega)) [put_none, getT_put, getT_put_ne]; done)); (focus (simp (disch := first | omega | (simp only [size_put]; omega)) [qv, qcall, vop, iop, eval_tmp, eval_const, put_none, getT_put, getT_put_ne]; try rfl))) | (apply ops_n; (focus rfl); (focus (first | omega | (simp only [size_put]; omega))); (focus (first | (left; simp (disch := first | omega | (simp only [size_put]; omega)) [put_none, getT_put, getT_put_ne]; done) | (right; simp (disch := first | omega | (simp only [size_put]; omega)) [put_none, getT_put, getT_put_ne]; done)))))
  refine ops_nil (SC.wp_seq (SC.wp_reg (opsw_none rfl (opw_alloc hi hz (ops_nil ?_)))))
  have hnew := heap_alloc_new w (.cells z.cells T)
  have hbn : Below w.heap.size w (w.alloc (.cells z.cells T)) := (Below.refl _ _).alloc (Nat.le_refl _) _
  generalize w.alloc (.cells z.cells T) = w1 at *
  simp only [Exit.then]
  refine SC.wp_seq (SC.wp_reg (ops_cal hD.1 (R := fun e w' => e = .returned (.tuple #[]) ∧ w' = w1.setRow w.heap.size cs) ?_ ?_))
  · refine Eq.mp (congrArg (fun z => Calls P fDef z w1 _) ?_) (hD.2 w1 w.heap.size hnew)
    simp (disch := first | omega | (simp only [size_put]; omega)) [eval_tmp, eval_const, put_none, getT_put, getT_put_ne]
  rintro e w2 ⟨rfl, rfl⟩
  refine ⟨_, rfl, ops_nil ?_⟩
  simp only [Exit.then]
  refine SC.wp_seq (SC.wp_reg ?_)
  repeat (first | (apply ops_1; (focus (simp (disch := first | omega | (simp only [size_put]; omega)) [qv, qcall, vop, iop, eval_tmp, eval_const, put_none, getT_put, getT_put_ne]; try rfl))) | (apply ops_y; (focus rfl); (focus (first | omega | (simp only [size_put]; omega))); (focus (simp (disch := first | omega | (simp only [size_put]; omega)) [put_none, getT_put, getT_put_ne]; done)); (focus (simp (disch := first | omega | (simp only [size_put]; omega)) [qv, qcall, vop, iop, eval_tmp, eval_const, put_none, getT_put, getT_put_ne]; try rfl))) | (apply ops_n; (focus rfl); (focus (first | omega | (simp only [size_put]; omega))); (focus (first | (left; simp (disch := first | omega | (simp only [size_put]; omega)) [put_none, getT_put, getT_put_ne]; done) | (right; simp (disch := first | omega | (simp only [size_put]; omega)) [put_none, getT_put, getT_put_ne]; done)))))
  refine ops_nil (SC.wp_ret (ret_tmp hr (by simp [defers_put, hd]) ⟨w.heap.size, ?_, Nat.le_refl _, setRow_heap w1 _ _ cs _ _ hnew, below_setRow hbn (Nat.le_refl _) _⟩))
  simp (disch := first | omega | (simp only [size_put]; omega)) [eval_tmp, eval_const, put_none, getT_put, getT_put_ne]

theorem maxV_ok {n : Int} (hf : P.funcs[f]? = some fn) (hb : fn.body.map strip = some (sc_MaxV n)) (hn : fn.ntmps = 3) (hr : fn.results = #[.tmp 2]) (w : World) (v : Value) :
    Calls P f #[v] w fun e w' => e = .returned (.int .i16 n) ∧ w' = w := by
  refine fn_calls hf hb hn (by simp) fun a0 hs hd ha => ?_
  refine SC.wp_seq (SC.wp_reg ?_)
  repeat (first | (apply ops_1; (focus (simp (disch := first | omega | (simp only [size_put]; omega)) [qv, qcall, vop, iop, eval_tmp, eval_const, put_none, getT_put, getT_put_ne]; try rfl))) | (apply ops_y; (focus rfl); (focus (first | omega | (simp only [size_put]; omega))); (focus (simp (disch := first | omega | (simp only [size_put]; omega)) [put_none, getT_put, getT_put_ne]; done)); (focus (simp (disch := first | omega | (simp only [size_put]; omega)) [qv, qcall, vop, iop, eval_tmp, eval_const, put_none, getT_put, getT_put_ne]; try rfl))) | (apply ops_n; (focus rfl); (focus (first | omega | (simp only [size_put]; omega))); (focus (first | (left; simp (disch := first | omega | (simp only [size_put]; omega)) [put_none, getT_put, getT_put_ne]; done) | (right; simp (disch := first | omega | (simp only [size_put]; omega)) [put_none, getT_put, getT_put_ne]; done)))))
  refine ops_nil (SC.wp_seq (SC.wp_reg ?_))
  repeat (first | (apply ops_1; (focus (simp (disch := first | omega | (simp only [size_put]; omega)) [qv, qcall, vop, iop, eval_tmp, eval_const, put_none, getT_put, getT_put_ne]; try rfl))) | (apply ops_y; (focus rfl); (focus (first | omega | (simp only [size_put]; omega))); (focus (simp (disch := first | omega | (simp only [size_put]; omega)) [put_none, getT_put, getT_put_ne]; done)); (focus (simp (disch := first | omega | (simp only [size_put]; omega)) [qv, qcall, vop, iop, eval_tmp, eval_const, put_none, getT_put, getT_put_ne]; try rfl))) | (apply ops_n; (focus rfl); (focus (first | omega | (simp only [size_put]; omega))); (focus (first | (left; simp (disch := first | omega | (simp only [size_put]; omega)) [put_none, getT_put, getT_put_ne]; done) | (right; simp (disch := first | omega | (simp only [size_put]; omega)) [put_none, getT_put, getT_put_ne]; done)))))
  refine ops_nil (SC.wp_ret (ret_tmp hr (by simp [defers_put, hd]) ⟨?_, rfl⟩))
  simp (disch := first | omega | (simp only [size_put]; omega)) [eval_tmp, eval_const, put_none, getT_put, getT_put_ne]

theorem max_ok {fNP fMV T16 TI T : Nat} {n : Nat} {cs : Array Value} (h16 : intK P T16 = some .i16) (hI : intK P TI = some .i64) (hn16 : n < 32768) (oNP : FnOK P fNP) (cNP : ∀ w : World, Calls P fNP #[] w fun e w' => ∃ b, e = .returned (.pointer (some ⟨b, 0, none⟩)) ∧ w.heap.size ≤ b ∧ w'.heap[b]? = some (.cells cs T (0, 0)) ∧ Below w.heap.size w w')
    (oMV : FnOK P fMV) (cMV : ∀ (w : World) (v : Value), Calls P fMV #[v] w fun e w' => e = .returned (.int .i16 (n : Int)) ∧ w' = w)
    (hf : P.funcs[f]? = some fn) (hb : fn.body.map strip = some (sc_Max fNP fMV T16 TI)) (hn : fn.ntmps = 4) (hr : fn.results = #[.tmp 0]) (w : World) :
    Calls P f #[] w fun e w' => e = .returned (.int .i64 (n : Int)) ∧ Below w.heap.size w w' := by
  refine fn_calls hf hb hn (by simp) fun a0 hs hd ha => ?_
  have ew : IntKind.i64.wrap (n : Int) = (n : Int) := by rw [wrap_i64']; split <;> omega
  refine SC.wp_seq (SC.wp_reg ?_)
  repeat (first | (apply ops_1; (focus (simp (disch := first | omega | (simp only [size_put]; omega)) [qv, qcall, vop, iop, eval_tmp, eval_const, put_none, getT_put, getT_put_ne]; try rfl))) | (apply ops_y; (focus rfl); (focus (first | omega | (simp only [size_put]; omega))); (focus (simp (disch := first | omega | (simp only [size_put]; omega)) [put_none, getT_put, getT_put_ne]; done)); (focus (simp (disch := first | omega | (simp only [size_put]; omega)) [qv, qcall, vop, iop, eval_tmp, eval_const, put_none, getT_put, getT_put_ne]; try rfl))) | (apply ops_n; (focus rfl); (focus (first | omega | (simp only [size_put]; omega))); (focus (first | (left; simp (disch := first | omega | (simp only [size_put]; omega)) [put_none, getT_put, getT_put_ne]; done) | (right; simp (disch := first | omega | (simp only [size_put]; omega)) [put_none, getT_put, getT_put_ne]; done)))))
  refine ops_nil (SC.wp_seq (SC.wp_reg (ops_cal oNP (cNP w) ?_)))
  rintro e w1 ⟨b, rfl, hb, hc, hbw⟩
  refine ⟨_, rfl, ops_cal oMV (R := fun e w' => e = .returned (.int .i16 (n : Int)) ∧ w' = w1) ?_ ?_⟩
  · refine Eq.mp (congrArg (fun z => Calls P fMV z w1 _) ?_) (cMV w1 (.pointer (some ⟨b, 0, none⟩)))
    simp (disch := first | omega | (simp only [size_put]; omega)) [eval_tmp, eval_const, put_none, getT_put, getT_put_ne]
  rintro e w2 ⟨rfl, rfl⟩
  refine ⟨_, rfl, ?_⟩
  repeat (first | (apply ops_1; (focus (simp (disch := first | omega | (simp only [size_put]; omega)) [qv, qcall, vop, iop, eval_tmp, eval_const, put_none, getT_put, getT_put_ne, h16, hI, ew]; try rfl))) | (apply ops_y; (focus rfl); (focus (first | omega | (simp only [size_put]; omega))); (focus (simp (disch := first | omega | (simp only [size_put]; omega)) [put_none, getT_put, getT_put_ne, h16, hI, ew]; done)); (focus (simp (disch := first | omega | (simp only [size_put]; omega)) [qv, qcall, vop, iop, eval_tmp, eval_const, put_none, getT_put, getT_put_ne, h16, hI, ew]; try rfl))) | (apply ops_n; (focus rfl); (focus (first | omega | (simp only [size_put]; omega))); (focus (first | (left; simp (disch := first | omega | (simp only [size_put]; omega)) [put_none, getT_put, getT_put_ne, h16, hI, ew]; done) | (right; simp (disch := first | omega | (simp only [size_put]; omega)) [put_none, getT_put, getT_put_ne]; done)))))
  refine ops_nil (SC.wp_ret (ret_tmp hr (by simp [defers_put, hd]) ⟨?_, hbw⟩))
  simp (disch := first | omega | (simp only [size_put]; omega)) [eval_tmp, eval_const, put_none, getT_put, getT_put_ne]

theorem setV_ok {T T16 : Nat} (h0 : fieldOff P T 0 = some 0) (h1 : oneB P T16 = true) (hf : P.funcs[f]? = some fn) (hb : fn.body.map strip = some (sc_SetV T T16)) (hn : fn.ntmps = 8) (hr : fn.results = #[]) (w : World) (b : Nat) (cs : Array Value) (E : TypeId) (hc : w.heap[b]? = some (.cells cs E (0, 0))) (hcs : 0 < cs.size) (n : Int) :
    Calls P f #[.pointer (some ⟨b, 0, none⟩), .int .i16 n] w fun e w' => e = .returned (.tuple #[]) ∧ w' = w.setRow b (cs.setIfInBounds 0 (.int .i16 n)) := by
  refine fn_calls hf hb hn (by simp) fun a0 hs hd ha => ?_
  have k0 := ha 0 _ rfl
  have k1 := ha 1 _ rfl
  simp only [List.getElem_toArray, List.getElem_cons_zero, List.getElem_cons_succ] at k0 k1
  refine SC.wp_reg ?_
  iterate 4 (first | (apply ops_1; (focus (simp (disch := first | omega | (simp only [size_put]; omega)) [qv, qcall, vop, iop, eval_tmp, eval_const, put_none, getT_put, getT_put_ne, k0, k1, h0]; try rfl))) | (apply ops_y; (focus rfl); (focus (first | omega | (simp only [size_put]; omega))); (focus (simp (disch := first | omega | (simp only [size_put]; omega)) [put_none, getT_put, getT_put_ne, k0, k1, h0]; done)); (focus (simp (disch := first | omega | (simp only [size_put]; omega)) [qv, qcall, vop, iop, eval_tmp, eval_const, put_none, getT_put, getT_put_ne, k0, k1, h0]; try rfl))) | (apply ops_n; (focus rfl); (focus (first | omega | (simp only [size_put]; omega))); (focus (first | (left; simp (disch := first | omega | (simp only [size_put]; omega)) [put_none, getT_put, getT_put_ne, k0, k1, h0]; done) | (right; simp (disch := first | omega | (simp only [size_put]; omega)) [put_none, getT_put, getT_put_ne]; done)))))
  refine opsw_none rfl (opw_store_one (ad := ⟨b, 0, none⟩) (v := .int .i16 n) (v0 := cs[0]) h1 (by simp (disch := first | omega | (simp only [size_put]; omega)) [eval_tmp, eval_const, put_none, getT_put, getT_put_ne]) (by simp (disch := first | omega | (simp only [size_put]; omega)) [eval_tmp, eval_const, put_none, getT_put, getT_put_ne]) rfl (by rw [cell_of_row _ _ _ _ _ _ hc]; exact Array.getElem?_eq_getElem hcs) (by simp [World.frozen?, hc]) (ops_nil ?_))
  refine ⟨by simp [defers_put, put_none, hd], .tuple #[], by simp [results, hr], rfl, setCell_eq_setRow _ _ _ _ _ _ _ hc⟩

/-- impl.NewX: what AppendTo writes of a new message -/
theorem new_ok {fNP fSV fAT TI T16 T tU8 : Nat} {cs : Array Value} {out : Int → Bytes} (h16 : intK P T16 = some .i16) (hI : intK P TI = some .i64) (oNP : FnOK P fNP) (cNP : ∀ w : World, Calls P fNP #[] w fun e w' => ∃ b, e = .returned (.pointer (some ⟨b, 0, none⟩)) ∧ w.heap.size ≤ b ∧ w'.heap[b]? = some (.cells cs T (0, 0)) ∧ Below w.heap.size w w')
    (oSV : FnOK P fSV) (cSV : ∀ (w : World) (b : Nat), w.heap[b]? = some (.cells cs T (0, 0)) → ∀ n : Int, Calls P fSV #[.pointer (some ⟨b, 0, none⟩), .int .i16 n] w fun e w' => e = .returned (.tuple #[]) ∧ w' = w.setRow b (cs.setIfInBounds 0 (.int .i16 n)))
    (oAT : FnOK P fAT) (cAT : ∀ (w : World) (b : Nat) (n : Int), w.heap[b]? = some (.cells (cs.setIfInBounds 0 (.int .i16 n)) T (0, 0)) → 0 ≤ n → n < 32768 → Calls P fAT #[.pointer (some ⟨b, 0, none⟩), .slice none 0 0] w fun e w' => ∃ dv, e = .returned dv ∧ Own tU8 w' w.heap.size dv (out n) ∧ Below w.heap.size w w')
    (hf : P.funcs[f]? = some fn) (hb : fn.body.map strip = some (sc_New fNP fSV fAT TI T16)) (hn : fn.ntmps = 11) (hr : fn.results = #[.tmp 2]) (w : World) (ver : Nat) (hv : ver < 32768) :
    Calls P f #[.int .i64 (ver : Int)] w (RetOwn tU8 w (out ver)) := by
  refine fn_calls hf hb hn (by simp) fun a0 hs hd ha => ?_
  have k0 := ha 0 _ rfl
  simp only [List.getElem_toArray, List.getElem_cons_zero, List.getElem_cons_succ] at k0
  have ew : IntKind.i16.wrap (ver : Int) = (ver : Int) := by rw [wrap_i16']; split <;> omega
  refine SC.wp_seq (SC.wp_reg ?_)
  repeat (first | (apply ops_1; (focus (simp (disch := first | omega | (simp only [size_put]; omega)) [qv, qcall, vop, iop, eval_tmp, eval_const, put_none, getT_put, getT_put_ne]; try rfl))) | (apply ops_y; (focus rfl); (focus (first | omega | (simp only [size_put]; omega))); (focus (simp (disch := first | omega | (simp only [size_put]; omega)) [put_none, getT_put, getT_put_ne]; done)); (focus (simp (disch := first | omega | (simp only [size_put]; omega)) [qv, qcall, vop, iop, eval_tmp, eval_const, put_none, getT_put, getT_put_ne]; try rfl))) | (apply ops_n; (focus rfl); (focus (first | omega | (simp only [size_put]; omega))); (focus (first | (left; simp (disch := first | omega | (simp only [size_put]; omega)) [put_none, getT_put, getT_put_ne]; done) | (right; simp (disch := first | omega | (simp only [size_put]; omega)) [put_none, getT_put, getT_put_ne]; done)))))
  refine ops_nil (SC.wp_seq (SC.wp_reg (ops_cal oNP (cNP w) ?_)))
  rintro e w1 ⟨b, rfl, hb, hc, hbw⟩
  refine ⟨_, rfl, ?_⟩
  have hsw : w.heap.size ≤ w1.heap.size := hbw.size
  repeat (first | (apply ops_1; (focus (simp (disch := first | omega | (simp only [size_put]; omega)) [qv, qcall, vop, iop, eval_tmp, eval_const, put_none, getT_put, getT_put_ne]; try rfl))) | (apply ops_y; (focus rfl); (focus (first | omega | (simp only [size_put]; omega))); (focus (simp (disch := first | omega | (simp only [size_put]; omega)) [put_none, getT_put, getT_put_ne]; done)); (focus (simp (disch := first | omega | (simp only [size_put]; omega)) [qv, qcall, vop, iop, eval_tmp, eval_const, put_none, getT_put, getT_put_ne]; try rfl))) | (apply ops_n; (focus rfl); (focus (first | omega | (simp only [size_put]; omega))); (focus (first | (left; simp (disch := first | omega | (simp only [size_put]; omega)) [put_none, getT_put, getT_put_ne]; done) | (right; simp (disch := first | omega | (simp only [size_put]; omega)) [put_none, getT_put, getT_put_ne]; done)))))
  refine ops_nil ?_
  simp only [Exit.then]
  refine SC.wp_seq (SC.wp_reg ?_)
  iterate 3 (first | (apply ops_1; (focus (simp (disch := first | omega | (simp only [size_put]; omega)) [qv, qcall, vop, iop, eval_tmp, eval_const, put_none, getT_put, getT_put_ne, h16, hI, k0, ew]; try rfl))) | (apply ops_y; (focus rfl); (focus (first | omega | (simp only [size_put]; omega))); (focus (simp (disch := first | omega | (simp only [size_put]; omega)) [put_none, getT_put, getT_put_ne, h16, hI, k0, ew]; done)); (focus (simp (disch := first | omega | (simp only [size_put]; omega)) [qv, qcall, vop, iop, eval_tmp, eval_const, put_none, getT_put, getT_put_ne, h16, hI, k0, ew]; try rfl))) | (apply ops_n; (focus rfl); (focus (first | omega | (simp only [size_put]; omega))); (focus (first | (left; simp (disch := first | omega | (simp only [size_put]; omega)) [put_none, getT_put, getT_put_ne, h16, hI, k0, ew]; done) | (right; simp (disch := first | omega | (simp only [size_put]; omega)) [put_none, getT_put, getT_put_ne]; done)))))
  refine ops_cal oSV (R := fun e w' => e = .returned (.tuple #[]) ∧ w' = w1.setRow b (cs.setIfInBounds 0 (.int .i16 (ver : Int)))) ?_ ?_
  · refine Eq.mp (congrArg (fun z => Calls P fSV z w1 _) ?_) (cSV w1 b hc (ver : Int))
    simp (disch := first | omega | (simp only [size_put]; omega)) [eval_tmp, eval_const, put_none, getT_put, getT_put_ne]
  rintro e w2 ⟨rfl, rfl⟩
  refine ⟨_, rfl, ops_nil ?_⟩
  have hc2 := setRow_heap w1 b _ (cs.setIfInBounds 0 (.int .i16 (ver : Int))) _ _ hc
  have hb2 : Below w.heap.size w (w1.setRow b (cs.setIfInBounds 0 (.int .i16 (ver : Int)))) := below_setRow hbw hb _
  have hs2 : (w1.setRow b (cs.setIfInBounds 0 (.int .i16 (ver : Int)))).heap.size = w1.heap.size := by simp
  generalize w1.setRow b (cs.setIfInBounds 0 (.int .i16 (ver : Int))) = w3 at *
  simp only [Exit.then]
  refine SC.wp_seq (SC.wp_reg ?_)
  iterate 1 (first | (apply ops_1; (focus (simp (disch := first | omega | (simp only [size_put]; omega)) [qv, qcall, vop, iop, eval_tmp, eval_const, put_none, getT_put, getT_put_ne]; try rfl))) | (apply ops_y; (focus rfl); (focus (first | omega | (simp only [size_put]; omega))); (focus (simp (disch := first | omega | (simp only [size_put]; omega)) [put_none, getT_put, getT_put_ne]; done)); (focus (simp (disch := first | omega | (simp only [size_put]; omega)) [qv, qcall, vop, iop, eval_tmp, eval_const, put_none, getT_put, getT_put_ne]; try rfl))) | (apply ops_n; (focus rfl); (focus (first | omega | (simp only [size_put]; omega))); (focus (first | (left; simp (disch := first | omega | (simp only [size_put]; omega)) [put_none, getT_put, getT_put_ne]; done) | (right; simp (disch := first | omega | (simp only [size_put]; omega)) [put_none, getT_put, getT_put_ne]; done)))))
  refine ops_call oAT (cAT w3 b ver hc2 (by omega) (by omega)) (by simp (disch := first | omega | (simp only [size_put]; omega)) [eval_tmp, eval_const, put_none, getT_put, getT_put_ne]) ?_
  rintro e w4 ⟨dv, rfl, ho, hb4⟩
  refine ⟨dv, rfl, ?_⟩
  repeat (first | (apply ops_1; (focus (simp (disch := first | omega | (simp only [size_put]; omega)) [qv, qcall, vop, iop, eval_tmp, eval_const, put_none, getT_put, getT_put_ne]; try rfl))) | (apply ops_y; (focus rfl); (focus (first | omega | (simp only [size_put]; omega))); (focus (simp (disch := first | omega | (simp only [size_put]; omega)) [put_none, getT_put, getT_put_ne]; done)); (focus (simp (disch := first | omega | (simp only [size_put]; omega)) [qv, qcall, vop, iop, eval_tmp, eval_const, put_none, getT_put, getT_put_ne]; try rfl))) | (apply ops_n; (focus rfl); (focus (first | omega | (simp only [size_put]; omega))); (focus (first | (left; simp (disch := first | omega | (simp only [size_put]; omega)) [put_none, getT_put, getT_put_ne]; done) | (right; simp (disch := first | omega | (simp only [size_put]; omega)) [put_none, getT_put, getT_put_ne]; done)))))
  refine ops_nil (SC.wp_ret (ret_tmp hr (by simp [defers_put, hd]) ⟨dv, ?_, own_down ho (by omega), hb2.trans (hb4.mono (by omega))⟩))
  simp (disch := first | omega | (simp only [size_put]; omega)) [eval_tmp, eval_const, put_none, getT_put, getT_put_ne]

/-- laws.FnNewX -/
def sc_LawNew (fMax fSp fVer fNew fDef fWr fSame TI M Fs_ : Nat) : SC := .seq (.reg [⟨some 2, .assign (.const (.bool false)), none⟩]) (.seq (.reg [cal 5 fMax [], asg 3 5]) (.seq (.seq (.reg [mv 6 3, ⟨some 7, .binOp .lss TI (.tmp 6) (.const (.int .i64 0)) TI, none⟩]) (.cond (.tmp 7) (.seq (.reg [⟨some 2, .assign (.const (.bool false)), none⟩]) .ret) .skip)) (.seq (.reg [cal 8 fSp [], ⟨some 4, .alloc M, none⟩, ⟨none, .store M (.tmp 4) (.tmp 8), none⟩]) (.seq (.dreg [mv 9 0, mv 10 3, cal 11 fVer [9, 10], cal 12 fNew [11], ld 13 M 4, mv 14 0, mv 15 3, cal 16 fVer [14, 15], fa 17 M 4 0, ld 18 Fs_ 17, cal 19 fDef [18], cal 20 fWr [13, 16, 19], cal 21 fSame [12, 20], asg 2 21] [[], [], [0, 1], [2, 2], [], [], [], [5, 6, 3], [], [8], [9, 7], [4, 7, 10, 10], [3, 11, 11], [12, 12, 0, 1, 2, 3, 4, 5, 6, 7, 8, 9, 10, 11, 12]]) .ret))))
end
end Go.Proofs.Ytioodpjcpadkoaa.K
