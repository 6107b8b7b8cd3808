/- The reference's function 'part': its tags. No condition. -/
import Derived.Test.YtioodpjcpadkoaaS9
namespace Go.Proofs.Ytioodpjcpadkoaa.K
open Go Go.RowKit Go.Proofs.Ytioodpjcpadkoaa.T
set_option linter.unusedSimpArgs false
set_option linter.unusedVariables false
set_option maxHeartbeats 4000000

def UnkC (G : List (Nat × Bytes) → Prop) (P : Program) (f : FuncId) : Prop :=
  ∀ (w : World) (fs : Fs) (fv : Value) (ub : Option Addr) (u : List (Nat × Bytes)) (uc : Nat), FsV w (· < w.heap.size) fs fv → Fs.len fs < 4294967296 → G u → UTagsAt w (· < w.heap.size) ub u → u.length ≤ uc →
    Calls P f #[fv, .slice ub u.length uc] w fun e w' => ∃ ub' uc', e = .returned (.slice ub' (unknown u).length uc') ∧ UTagsAt w' (· < w'.heap.size) ub' (unknown u) ∧ Below w.heap.size w w'
def KnownC (P : Program) (f : FuncId) : Prop :=
  ∀ (w : World) (fs : Fs) (fv : Value), FsV w (· < w.heap.size) fs fv → Fs.len fs < 4294967296 → Calls P f #[fv] w fun e w' => e = .returned (.int .u32 0) ∧ Below w.heap.size w w'

section
variable {G : List (Nat × Bytes) → Prop} {P : Program} {X : STy} {f : FuncId} {fn : Func} {fW fTh fC fWi fF fU fHas fNull fAt fPart fVal fFld fKn fUs fUnk : FuncId}

/-- the loop over the unknown tags -/
theorem tags_loop (hX : stOK P X = true) (hTg : arrB P X.Tg 2 = true) (S : SmallC P X fW fTh fC fWi fF fU fHas fNull fAt G) (oUnk : FnOK P fUnk) (cUnk : UnkC G P fUnk)
    {a : Act} {w1 : World} {Q : Exit → Act → World → Prop} (fs : Fs) (fv : Value) (hfs : FsV w1 (· < w1.heap.size) fs fv) (hlen63 : Fs.len fs < 4294967296) (b7 : Nat) (hb7 : b7 < w1.heap.size) (n : Int) (s l : Value) (tnull : Bool) (ub : Option Addr) (u : List (Nat × Bytes)) (uc : Nat) (huc : u.length ≤ uc) (hG : G u) (hu : UTagsAt w1 (· < w1.heap.size) ub u)
    (hc7 : ∀ i, w1.cell? ⟨b7, i, none⟩ = #[Value.int .i64 n, s, .bool tnull, l, .slice ub u.length uc][i]?)
    (g : a.tmps.size = 132) (g0 : getT a 0 = fv) (g7 : getT a 7 = .pointer (some ⟨b7, 0, none⟩)) (g10 : getT a 10 = .slice none 0 0) (g11 : getT a 11 = .int .i64 0)
    (hl : ((unknown u).flatMap wTag).length ≤ lim) (hul : (unknown u).length ≤ most)
    (hQ : ∀ (a' : Act) (w' : World), a'.tmps.size = 132 → a'.defers = a.defers → (∀ s, s < 10 → getT a' s = getT a s) → Own X.U8 w' w1.heap.size (getT a' 10) ((unknown u).flatMap wTag) → getT a' 11 = .int .i64 ((unknown u).length : Int) → Below w1.heap.size w1 w' → Q .normal a' w') :
    SC.wp P (.seq (.reg [mv 97 0, fa 98 X.T 7 4, ld 99 X.Tgs 98, cal 100 fUnk [97, 99], lenOp 101 X.Tgs 100, ⟨some 102, .move (.const (.int .i64 0)), none⟩]) (.block 6 (.loop (.seq (.reg [⟨some 103, .binOp .lss X.I (.tmp 102) (.tmp 101) X.I, none⟩]) (.seq (.cond (.tmp 103) (.skip) (.exit 6)) (.seq (.block 7 (.seq (.reg [⟨some 104, .indexAddr X.Tgs (.tmp 100) (.tmp 102), none⟩, ld 105 X.Tg 104, ⟨some 19, .alloc X.Tg, none⟩, ⟨none, .store X.Tg (.tmp 19) (.tmp 105), none⟩]) (.seq (.reg [fa 106 X.Tg 19 1, ld 107 X.Bs 106, cal 108 fW [107], asg 20 108]) (.seq (.reg [mv 109 10, fa 110 X.Tg 19 0, ld 111 X.U32 110, ⟨some 112, .convert X.U32 X.U64 (.tmp 111), none⟩, cal 113 fU [112], ⟨some 114, .call ⟨.builtin .append, #[(.tmp 109), (.tmp 113)], #[X.Bs, X.Bs]⟩, none⟩, mv 115 20, lenOp 116 X.Bs 115, ⟨some 117, .convert X.I X.U64 (.tmp 116), none⟩, cal 118 fU [117], ⟨some 119, .call ⟨.builtin .append, #[(.tmp 114), (.tmp 118)], #[X.Bs, X.Bs]⟩, none⟩, mv 120 20, ⟨some 121, .call ⟨.builtin .append, #[(.tmp 119), (.tmp 120)], #[X.Bs, X.Bs]⟩, none⟩, asg 10 121]) (.reg [mv 122 11, ⟨some 123, .binOp .add X.I (.tmp 122) (.const (.int .i64 1)) X.I, none⟩, asg 11 123]))))) (.reg [⟨some 124, .binOp .add X.I (.tmp 102) (.const (.int .i64 1)) X.I, none⟩, mv 102 124]))))))) Q a w1 := by
  have hst := st_facts hX
  have hU8s := hst.2.2.1.1
  have hlim : lim = 70368744177664 := rfl
  have hmost : most = 32767 := rfl
  obtain ⟨hTg1, iF, zF, hiF, hzF, hzFs⟩ := arr_of hTg
  refine SC.wp_seq (SC.wp_reg ?_)
  iterate 3 (first | (apply ops_1; (focus (simp (disch := first | omega | (simp only [size_put]; omega)) [qv, qcall, vop, iop, eval_tmp, eval_const, put_none, getT_put, getT_put_ne, hst, g0, g7, hc7]; try rfl))) | (apply ops_y; (focus rfl); (focus (first | omega | (simp only [size_put]; omega))); (focus (simp (disch := first | omega | (simp only [size_put]; omega)) [put_none, getT_put, getT_put_ne, hst, g0, g7, hc7]; done)); (focus (simp (disch := first | omega | (simp only [size_put]; omega)) [qv, qcall, vop, iop, eval_tmp, eval_const, put_none, getT_put, getT_put_ne, hst, g0, g7, hc7]; try rfl))) | (apply ops_n; (focus rfl); (focus (first | omega | (simp only [size_put]; omega))); (focus (first | (left; simp (disch := first | omega | (simp only [size_put]; omega)) [put_none, getT_put, getT_put_ne, hst, g0, g7, hc7]; done) | (right; simp (disch := first | omega | (simp only [size_put]; omega)) [put_none, getT_put, getT_put_ne]; done)))))
  refine ops_call oUnk (cUnk w1 fs fv ub u uc hfs hlen63 hG hu huc) (by simp (disch := first | omega | (simp only [size_put]; omega)) [eval_tmp, eval_const, put_none, getT_put, getT_put_ne]) ?_
  rintro e w2 ⟨ub', uc', rfl, hu2, hb2⟩
  refine ⟨_, rfl, ?_⟩
  generalize unknown u = us at *
  repeat (first | (apply ops_1; (focus (simp (disch := first | omega | (simp only [size_put]; omega)) [qv, qcall, vop, iop, eval_tmp, eval_const, put_none, getT_put, getT_put_ne, hst]; try rfl))) | (apply ops_y; (focus rfl); (focus (first | omega | (simp only [size_put]; omega))); (focus (simp (disch := first | omega | (simp only [size_put]; omega)) [put_none, getT_put, getT_put_ne, hst]; done)); (focus (simp (disch := first | omega | (simp only [size_put]; omega)) [qv, qcall, vop, iop, eval_tmp, eval_const, put_none, getT_put, getT_put_ne, hst]; try rfl))) | (apply ops_n; (focus rfl); (focus (first | omega | (simp only [size_put]; omega))); (focus (first | (left; simp (disch := first | omega | (simp only [size_put]; omega)) [put_none, getT_put, getT_put_ne, hst]; done) | (right; simp (disch := first | omega | (simp only [size_put]; omega)) [put_none, getT_put, getT_put_ne]; done)))))
  refine ops_nil ?_
  simp only [Exit.then]
  have hsz2 : w1.heap.size ≤ w2.heap.size := hb2.size
  refine SC.wp_block (SC.wp_loop (fun a4 w5 => ∃ (j : Nat), a4.tmps.size = 132 ∧ a4.defers = a.defers ∧ (∀ s, s < 10 → getT a4 s = getT a s) ∧ getT a4 100 = .slice ub' us.length uc' ∧ getT a4 101 = .int .i64 (us.length : Int) ∧ getT a4 102 = .int .i64 (j : Int) ∧ j ≤ us.length ∧ getT a4 11 = .int .i64 (j : Int) ∧
      Own X.U8 w5 w2.heap.size (getT a4 10) ((us.take j).flatMap wTag) ∧ Below w2.heap.size w2 w5)
    (fun a4 _ => match getT a4 102 with | .int _ m => (us.length - m).toNat | _ => 0) ⟨0, by simp [size_put, g], by simp [defers_put], ?_, by simp (disch := first | omega | (simp only [size_put]; omega)) [eval_tmp, eval_const, put_none, getT_put, getT_put_ne], by simp (disch := first | omega | (simp only [size_put]; omega)) [eval_tmp, eval_const, put_none, getT_put, getT_put_ne], by simp (disch := first | omega | (simp only [size_put]; omega)) [eval_tmp, eval_const, put_none, getT_put, getT_put_ne], by omega, by simp (disch := first | omega | (simp only [size_put]; omega)) [eval_tmp, eval_const, put_none, getT_put, getT_put_ne, g11], by simp (disch := first | omega | (simp only [size_put]; omega)) [eval_tmp, eval_const, put_none, getT_put, getT_put_ne, g10]; exact own_nil _ _ _, Below.refl _ _⟩ ?_)
  · intro s h1
    simp (disch := omega) [getT_put_ne]
  rintro a4 w5 ⟨j, q, qd, qs, q100, q101, q102, hj, q11, ho, hb5⟩
  have hsz5 : w2.heap.size ≤ w5.heap.size := hb5.size
  refine SC.wp_seq (SC.wp_reg ?_)
  repeat (first | (apply ops_1; (focus (simp (disch := first | omega | (simp only [size_put]; omega)) [qv, qcall, vop, iop, eval_tmp, eval_const, put_none, getT_put, getT_put_ne, hst, q101, q102]; try rfl))) | (apply ops_y; (focus rfl); (focus (first | omega | (simp only [size_put]; omega))); (focus (simp (disch := first | omega | (simp only [size_put]; omega)) [put_none, getT_put, getT_put_ne, hst, q101, q102]; done)); (focus (simp (disch := first | omega | (simp only [size_put]; omega)) [qv, qcall, vop, iop, eval_tmp, eval_const, put_none, getT_put, getT_put_ne, hst, q101, q102]; try rfl))) | (apply ops_n; (focus rfl); (focus (first | omega | (simp only [size_put]; omega))); (focus (first | (left; simp (disch := first | omega | (simp only [size_put]; omega)) [put_none, getT_put, getT_put_ne, hst, q101, q102]; done) | (right; simp (disch := first | omega | (simp only [size_put]; omega)) [put_none, getT_put, getT_put_ne]; done)))))
  refine ops_nil ?_
  simp only [Exit.then]
  refine SC.wp_seq (SC.wp_cond (t := decide ((j : Int) < (us.length : Int))) (by simp (disch := first | omega | (simp only [size_put]; omega)) [eval_tmp, eval_const, put_none, getT_put, getT_put_ne]) ?_)
  cases e1 : decide ((j : Int) < (us.length : Int))
  · have hje : j = us.length := by simp at e1; omega
    subst hje
    rw [if_neg (by simp)]
    refine SC.wp_exit ?_
    simp only [Exit.then, Exit.inBlock, if_true]
    rw [List.take_length] at ho
    refine hQ _ _ (by simp [size_put, q]) (by simp [defers_put, qd]) ?_ ?_ (by simp (disch := first | omega | (simp only [size_put]; omega)) [eval_tmp, eval_const, put_none, getT_put, getT_put_ne, q11]) (hb2.trans (hb5.mono hsz2))
    · intro s h1
      rw [← qs s h1]
      simp (disch := omega) [getT_put_ne]
    · refine own_eq (own_down ho hsz2) ?_
      simp (disch := first | omega | (simp only [size_put]; omega)) [eval_tmp, eval_const, put_none, getT_put, getT_put_ne]
  · have hjl : j < us.length := by simp at e1; omega
    rw [if_pos rfl]
    refine SC.wp_skip ?_
    simp only [Exit.then]
    rcases hu2 with hu2 | ⟨b, o, rfl, hbF, hu2⟩
    · subst hu2; simp at hjl
    obtain ⟨hx32, vb, vc, hr2, hvb, hvc⟩ := hu2 j _ (List.getElem?_eq_getElem hjl)
    have hr2' := (rangeV_mono (w := w5) (hb5.block b hbF) 2 (o + j * 2)).trans hr2
    have ej : (0 : Int) ≤ (j : Int) ∧ (j : Int) < (us.length : Int) := by omega
    obtain ⟨tf1, tf2⟩ := take_flat us wTag j hjl
    have hcj : (wTag us[j]).length = (uvarint us[j].1).length + ((uvarint (whole us[j].2).length).length + (whole us[j].2).length) := by simp [wTag, Nat.add_assoc]
    have hwt : wTag us[j] = uvarint us[j].1 ++ uvarint (whole us[j].2).length ++ whole us[j].2 := rfl
    generalize us[j] = x at *
    refine SC.wp_seq (SC.wp_block (SC.wp_seq (SC.wp_reg ?_)))
    iterate 2 (first | (apply ops_1; (focus (simp (disch := first | omega | (simp only [size_put]; omega)) [qv, qcall, vop, iop, eval_tmp, eval_const, put_none, getT_put, getT_put_ne, hst, q100, q102, ej, hr2', hjl]; try rfl))) | (apply ops_y; (focus rfl); (focus (first | omega | (simp only [size_put]; omega))); (focus (simp (disch := first | omega | (simp only [size_put]; omega)) [put_none, getT_put, getT_put_ne, hst, q100, q102, ej, hr2', hjl]; done)); (focus (simp (disch := first | omega | (simp only [size_put]; omega)) [qv, qcall, vop, iop, eval_tmp, eval_const, put_none, getT_put, getT_put_ne, hst, q100, q102, ej, hr2', hjl]; try rfl))) | (apply ops_n; (focus rfl); (focus (first | omega | (simp only [size_put]; omega))); (focus (first | (left; simp (disch := first | omega | (simp only [size_put]; omega)) [put_none, getT_put, getT_put_ne, hst, q100, q102, ej, hr2', hjl]; done) | (right; simp (disch := first | omega | (simp only [size_put]; omega)) [put_none, getT_put, getT_put_ne]; done)))))
    refine opsw_none rfl (opw_alloc hiF hzF ?_)
    refine opsw_none rfl (opw_store_agg (b := w5.heap.size) (cs := [.int .u32 (x.1 : Int), .slice vb x.2.length vc]) hTg1 (by simp (disch := first | omega | (simp only [size_put]; omega)) [eval_tmp, eval_const, put_none, getT_put, getT_put_ne]) (by simp (disch := first | omega | (simp only [size_put]; omega)) [eval_tmp, eval_const, put_none, getT_put, getT_put_ne]) (heap_alloc_new w5 _) (by simp [hzFs]) (by simp [Value.oneCell']) (ops_nil ?_))
    have hnew : ((w5.alloc (.cells zF.cells X.Tg)).setRow w5.heap.size #[.int .u32 (x.1 : Int), .slice vb x.2.length vc]).heap[w5.heap.size]? = some (.cells #[.int .u32 (x.1 : Int), .slice vb x.2.length vc] X.Tg (0, 0)) := setRow_heap _ _ _ _ _ _ (heap_alloc_new w5 _)
    have hb6 : Below w5.heap.size w5 ((w5.alloc (.cells zF.cells X.Tg)).setRow w5.heap.size #[.int .u32 (x.1 : Int), .slice vb x.2.length vc]) := below_setRow ((Below.refl _ _).alloc (Nat.le_refl _) _) (Nat.le_refl _) _
    have hsz6 : ((w5.alloc (.cells zF.cells X.Tg)).setRow w5.heap.size #[.int .u32 (x.1 : Int), .slice vb x.2.length vc]).heap.size = w5.heap.size + 1 := by simp
    simp only [Exit.then, put_none]
    generalize ((w5.alloc (.cells zF.cells X.Tg)).setRow w5.heap.size #[.int .u32 (x.1 : Int), .slice vb x.2.length vc]) = w6 at *
    have hc6 : ∀ i, w6.cell? ⟨w5.heap.size, i, none⟩ = #[Value.int .u32 (x.1 : Int), .slice vb x.2.length vc][i]? := fun i => cell_of_row _ _ _ _ _ _ hnew
    refine SC.wp_seq (SC.wp_reg ?_)
    iterate 2 (first | (apply ops_1; (focus (simp (disch := first | omega | (simp only [size_put]; omega)) [qv, qcall, vop, iop, eval_tmp, eval_const, put_none, getT_put, getT_put_ne, hst, hc6]; try rfl))) | (apply ops_y; (focus rfl); (focus (first | omega | (simp only [size_put]; omega))); (focus (simp (disch := first | omega | (simp only [size_put]; omega)) [put_none, getT_put, getT_put_ne, hst, hc6]; done)); (focus (simp (disch := first | omega | (simp only [size_put]; omega)) [qv, qcall, vop, iop, eval_tmp, eval_const, put_none, getT_put, getT_put_ne, hst, hc6]; try rfl))) | (apply ops_n; (focus rfl); (focus (first | omega | (simp only [size_put]; omega))); (focus (first | (left; simp (disch := first | omega | (simp only [size_put]; omega)) [put_none, getT_put, getT_put_ne, hst, hc6]; done) | (right; simp (disch := first | omega | (simp only [size_put]; omega)) [put_none, getT_put, getT_put_ne]; done)))))
    refine ops_call S.oW (S.cW w6 vb x.2.length vc hvc) (by simp (disch := first | omega | (simp only [size_put]; omega)) [eval_tmp, eval_const, put_none, getT_put, getT_put_ne]) ?_
    rintro e w7 ⟨rfl, rfl⟩
    refine ⟨_, rfl, ?_⟩
    repeat (first | (apply ops_1; (focus (simp (disch := first | omega | (simp only [size_put]; omega)) [qv, qcall, vop, iop, eval_tmp, eval_const, put_none, getT_put, getT_put_ne]; try rfl))) | (apply ops_y; (focus rfl); (focus (first | omega | (simp only [size_put]; omega))); (focus (simp (disch := first | omega | (simp only [size_put]; omega)) [put_none, getT_put, getT_put_ne]; done)); (focus (simp (disch := first | omega | (simp only [size_put]; omega)) [qv, qcall, vop, iop, eval_tmp, eval_const, put_none, getT_put, getT_put_ne]; try rfl))) | (apply ops_n; (focus rfl); (focus (first | omega | (simp only [size_put]; omega))); (focus (first | (left; simp (disch := first | omega | (simp only [size_put]; omega)) [put_none, getT_put, getT_put_ne]; done) | (right; simp (disch := first | omega | (simp only [size_put]; omega)) [put_none, getT_put, getT_put_ne]; done)))))
    refine ops_nil ?_
    simp only [Exit.then]
    have ewl : (whole x.2).length = min x.2.length most := by simp [whole, Nat.min_comm]
    refine gen_act (fun a6 => a6.tmps.size = 132 ∧ a6.defers = a.defers ∧ (∀ s, s < 10 → getT a6 s = getT a s) ∧ getT a6 10 = getT a4 10 ∧ getT a6 11 = .int .i64 (j : Int) ∧ getT a6 100 = .slice (some ⟨b, o, none⟩) us.length uc' ∧ getT a6 101 = .int .i64 (us.length : Int) ∧ getT a6 102 = .int .i64 (j : Int) ∧ getT a6 19 = .pointer (some ⟨w5.heap.size, 0, none⟩) ∧ getT a6 20 = .slice vb (whole x.2).length vc)
      ⟨by simp [size_put, q], by simp [defers_put, qd], ?_, by simp (disch := first | omega | (simp only [size_put]; omega)) [eval_tmp, eval_const, put_none, getT_put, getT_put_ne], by simp (disch := first | omega | (simp only [size_put]; omega)) [eval_tmp, eval_const, put_none, getT_put, getT_put_ne, q11], by simp (disch := first | omega | (simp only [size_put]; omega)) [eval_tmp, eval_const, put_none, getT_put, getT_put_ne, q100], by simp (disch := first | omega | (simp only [size_put]; omega)) [eval_tmp, eval_const, put_none, getT_put, getT_put_ne, q101], by simp (disch := first | omega | (simp only [size_put]; omega)) [eval_tmp, eval_const, put_none, getT_put, getT_put_ne, q102], by simp (disch := first | omega | (simp only [size_put]; omega)) [eval_tmp, eval_const, put_none, getT_put, getT_put_ne], by simp (disch := first | omega | (simp only [size_put]; omega)) [eval_tmp, eval_const, put_none, getT_put, getT_put_ne, ewl]⟩ ?_
    · intro s h1
      rw [← qs s h1]
      simp (disch := omega) [getT_put_ne]
    rintro a6 ⟨p, pd, ps, p10, p11, p100, p101, p102, p19, p20⟩
    have hwl : (whole x.2).length ≤ most := by rw [ewl]; omega
    have ek : (x.1 : Int) % 18446744073709551616 = (x.1 : Int) := by omega
    have el : ((whole x.2).length : Int) % 18446744073709551616 = ((whole x.2).length : Int) := by omega
    have hBv6 : BytesAt w6 (fun k => k < w2.heap.size) vb (whole x.2) := bytesAt_mono (bytesAt_whole hvb most) (fun _ h => h) (fun k hk => (hb6.block k (by omega)).trans (hb5.block k hk))
    generalize whole x.2 = wx at *
    have hl' : ((us.take j).flatMap wTag).length + (uvarint x.1).length + (uvarint wx.length).length + wx.length ≤ lim := by omega
    have ho6 : Own X.U8 w6 w2.heap.size (getT a4 10) ((us.take j).flatMap wTag) := own_keep ho hb6
    refine SC.wp_seq (SC.wp_reg ?_)
    iterate 4 (first | (apply ops_1; (focus (simp (disch := first | omega | (simp only [size_put]; omega)) [qv, qcall, vop, iop, eval_tmp, eval_const, put_none, getT_put, getT_put_ne, hst, hc6, p10, p19, wrap_u64, ek]; try rfl))) | (apply ops_y; (focus rfl); (focus (first | omega | (simp only [size_put]; omega))); (focus (simp (disch := first | omega | (simp only [size_put]; omega)) [put_none, getT_put, getT_put_ne, hst, hc6, p10, p19, wrap_u64, ek]; done)); (focus (simp (disch := first | omega | (simp only [size_put]; omega)) [qv, qcall, vop, iop, eval_tmp, eval_const, put_none, getT_put, getT_put_ne, hst, hc6, p10, p19, wrap_u64, ek]; try rfl))) | (apply ops_n; (focus rfl); (focus (first | omega | (simp only [size_put]; omega))); (focus (first | (left; simp (disch := first | omega | (simp only [size_put]; omega)) [put_none, getT_put, getT_put_ne, hst, hc6, p10, p19, wrap_u64, ek]; done) | (right; simp (disch := first | omega | (simp only [size_put]; omega)) [put_none, getT_put, getT_put_ne]; done)))))
    refine ops_call S.oU (S.cU w6 x.1 (by omega)) (by simp (disch := first | omega | (simp only [size_put]; omega)) [eval_tmp, eval_const, put_none, getT_put, getT_put_ne]) ?_
    rintro e w7 ⟨v1, rfl, o1, b1⟩
    refine ⟨v1, rfl, ?_⟩
    have s7 : w6.heap.size ≤ w7.heap.size := b1.size
    refine opsw_none rfl (opw_appendU8 (B := w2.heap.size) (dv := getT a4 10) (xv := v1) (xs := (us.take j).flatMap wTag) (bs := uvarint x.1) hU8s (by simp (disch := first | omega | (simp only [size_put]; omega)) [eval_tmp, eval_const, put_none, getT_put, getT_put_ne, p10]) (by simp (disch := first | omega | (simp only [size_put]; omega)) [eval_tmp, eval_const, put_none, getT_put, getT_put_ne]) rfl (own_keep ho6 b1) (by omega) (src_own hU8s o1) (by omega) ?_)
    intro v2 w8 o2 b2 s8 _
    have e117 : True := trivial
    iterate 3 (first | (apply ops_1; (focus (simp (disch := first | omega | (simp only [size_put]; omega)) [qv, qcall, vop, iop, eval_tmp, eval_const, put_none, getT_put, getT_put_ne, hst, p20, wrap_u64, el]; try rfl))) | (apply ops_y; (focus rfl); (focus (first | omega | (simp only [size_put]; omega))); (focus (simp (disch := first | omega | (simp only [size_put]; omega)) [put_none, getT_put, getT_put_ne, hst, p20, wrap_u64, el]; done)); (focus (simp (disch := first | omega | (simp only [size_put]; omega)) [qv, qcall, vop, iop, eval_tmp, eval_const, put_none, getT_put, getT_put_ne, hst, p20, wrap_u64, el]; try rfl))) | (apply ops_n; (focus rfl); (focus (first | omega | (simp only [size_put]; omega))); (focus (first | (left; simp (disch := first | omega | (simp only [size_put]; omega)) [put_none, getT_put, getT_put_ne, hst, p20, wrap_u64, el]; done) | (right; simp (disch := first | omega | (simp only [size_put]; omega)) [put_none, getT_put, getT_put_ne]; done)))))
    refine ops_call S.oU (S.cU w8 wx.length (by omega)) (by simp (disch := first | omega | (simp only [size_put]; omega)) [eval_tmp, eval_const, put_none, getT_put, getT_put_ne]) ?_
    rintro e w9 ⟨v3, rfl, o3, b3⟩
    refine ⟨v3, rfl, ?_⟩
    have s9 : w8.heap.size ≤ w9.heap.size := b3.size
    refine opsw_none rfl (opw_appendU8 (B := w2.heap.size) (dv := v2) (xv := v3) (xs := (us.take j).flatMap wTag ++ uvarint x.1) (bs := uvarint wx.length) hU8s (by simp (disch := first | omega | (simp only [size_put]; omega)) [eval_tmp, eval_const, put_none, getT_put, getT_put_ne]) (by simp (disch := first | omega | (simp only [size_put]; omega)) [eval_tmp, eval_const, put_none, getT_put, getT_put_ne]) rfl (own_keep o2 b3) (by omega) (src_own hU8s o3) (by rw [List.length_append]; omega) ?_)
    intro v4 w10 o4 b4 s10 _
    have b610 : Below w2.heap.size w6 w10 := (b1.mono (by omega)).trans (b2.trans ((b3.mono (by omega)).trans b4))
    iterate 1 (first | (apply ops_1; (focus (simp (disch := first | omega | (simp only [size_put]; omega)) [qv, qcall, vop, iop, eval_tmp, eval_const, put_none, getT_put, getT_put_ne, p20]; try rfl))) | (apply ops_y; (focus rfl); (focus (first | omega | (simp only [size_put]; omega))); (focus (simp (disch := first | omega | (simp only [size_put]; omega)) [put_none, getT_put, getT_put_ne, p20]; done)); (focus (simp (disch := first | omega | (simp only [size_put]; omega)) [qv, qcall, vop, iop, eval_tmp, eval_const, put_none, getT_put, getT_put_ne, p20]; try rfl))) | (apply ops_n; (focus rfl); (focus (first | omega | (simp only [size_put]; omega))); (focus (first | (left; simp (disch := first | omega | (simp only [size_put]; omega)) [put_none, getT_put, getT_put_ne, p20]; done) | (right; simp (disch := first | omega | (simp only [size_put]; omega)) [put_none, getT_put, getT_put_ne]; done)))))
    refine opsw_none rfl (opw_appendU8 (B := w2.heap.size) (dv := v4) (xv := .slice vb wx.length vc) (xs := (us.take j).flatMap wTag ++ uvarint x.1 ++ uvarint wx.length) (bs := wx) hU8s (by simp (disch := first | omega | (simp only [size_put]; omega)) [eval_tmp, eval_const, put_none, getT_put, getT_put_ne]) (by simp (disch := first | omega | (simp only [size_put]; omega)) [eval_tmp, eval_const, put_none, getT_put, getT_put_ne]) rfl o4 s10 (src_bytes hU8s (bytesAt_mono (F' := fun _ => True) hBv6 (fun _ _ => trivial) (fun k hk => b610.block k hk)) vc) (by rw [List.length_append, List.length_append]; omega) ?_)
    intro v5 w11 o5 b5 s11 _
    repeat (first | (apply ops_1; (focus (simp (disch := first | omega | (simp only [size_put]; omega)) [qv, qcall, vop, iop, eval_tmp, eval_const, put_none, getT_put, getT_put_ne]; try rfl))) | (apply ops_y; (focus rfl); (focus (first | omega | (simp only [size_put]; omega))); (focus (simp (disch := first | omega | (simp only [size_put]; omega)) [put_none, getT_put, getT_put_ne]; done)); (focus (simp (disch := first | omega | (simp only [size_put]; omega)) [qv, qcall, vop, iop, eval_tmp, eval_const, put_none, getT_put, getT_put_ne]; try rfl))) | (apply ops_n; (focus rfl); (focus (first | omega | (simp only [size_put]; omega))); (focus (first | (left; simp (disch := first | omega | (simp only [size_put]; omega)) [put_none, getT_put, getT_put_ne]; done) | (right; simp (disch := first | omega | (simp only [size_put]; omega)) [put_none, getT_put, getT_put_ne]; done)))))
    refine ops_nil ?_
    simp only [Exit.then]
    have ew : IntKind.i64.wrap ((j : Int) + 1) = ((j + 1 : Nat) : Int) := by rw [wrap_i64']; split <;> omega
    refine SC.wp_reg ?_
    repeat (first | (apply ops_1; (focus (simp (disch := first | omega | (simp only [size_put]; omega)) [qv, qcall, vop, iop, eval_tmp, eval_const, put_none, getT_put, getT_put_ne, p11, ew]; try rfl))) | (apply ops_y; (focus rfl); (focus (first | omega | (simp only [size_put]; omega))); (focus (simp (disch := first | omega | (simp only [size_put]; omega)) [put_none, getT_put, getT_put_ne, p11, ew]; done)); (focus (simp (disch := first | omega | (simp only [size_put]; omega)) [qv, qcall, vop, iop, eval_tmp, eval_const, put_none, getT_put, getT_put_ne, p11, ew]; try rfl))) | (apply ops_n; (focus rfl); (focus (first | omega | (simp only [size_put]; omega))); (focus (first | (left; simp (disch := first | omega | (simp only [size_put]; omega)) [put_none, getT_put, getT_put_ne, p11, ew]; done) | (right; simp (disch := first | omega | (simp only [size_put]; omega)) [put_none, getT_put, getT_put_ne]; done)))))
    refine ops_nil ?_
    simp only [Exit.inBlock, Exit.then]
    refine SC.wp_reg ?_
    repeat (first | (apply ops_1; (focus (simp (disch := first | omega | (simp only [size_put]; omega)) [qv, qcall, vop, iop, eval_tmp, eval_const, put_none, getT_put, getT_put_ne, p102, ew]; try rfl))) | (apply ops_y; (focus rfl); (focus (first | omega | (simp only [size_put]; omega))); (focus (simp (disch := first | omega | (simp only [size_put]; omega)) [put_none, getT_put, getT_put_ne, p102, ew]; done)); (focus (simp (disch := first | omega | (simp only [size_put]; omega)) [qv, qcall, vop, iop, eval_tmp, eval_const, put_none, getT_put, getT_put_ne, p102, ew]; try rfl))) | (apply ops_n; (focus rfl); (focus (first | omega | (simp only [size_put]; omega))); (focus (first | (left; simp (disch := first | omega | (simp only [size_put]; omega)) [put_none, getT_put, getT_put_ne, p102, ew]; done) | (right; simp (disch := first | omega | (simp only [size_put]; omega)) [put_none, getT_put, getT_put_ne]; done)))))
    refine ops_nil ?_
    refine ⟨⟨j + 1, by simp [size_put, p], by simp [defers_put, pd], ?_, by simp (disch := first | omega | (simp only [size_put]; omega)) [eval_tmp, eval_const, put_none, getT_put, getT_put_ne, p100], by simp (disch := first | omega | (simp only [size_put]; omega)) [eval_tmp, eval_const, put_none, getT_put, getT_put_ne, p101], by simp (disch := first | omega | (simp only [size_put]; omega)) [eval_tmp, eval_const, put_none, getT_put, getT_put_ne], by omega, by simp (disch := first | omega | (simp only [size_put]; omega)) [eval_tmp, eval_const, put_none, getT_put, getT_put_ne], ?_, hb5.trans ((hb6.mono (by omega)).trans (b610.trans b5))⟩, ?_⟩
    · intro s h1
      rw [← ps s h1]
      simp (disch := omega) [getT_put_ne]
    · rw [tf1, hwt, ← List.append_assoc, ← List.append_assoc]
      refine own_eq o5 ?_
      simp (disch := first | omega | (simp only [size_put]; omega)) [eval_tmp, eval_const, put_none, getT_put, getT_put_ne]
    · rw [q102]
      simp (disch := first | omega | (simp only [size_put]; omega)) [eval_tmp, eval_const, put_none, getT_put, getT_put_ne]; omega
end
end Go.Proofs.Ytioodpjcpadkoaa.K
