/- The reference's function 'part': its fields. No condition. -/
import Derived.Test.YtioodpjcpadkoaaS8
namespace Go.Proofs.Ytioodpjcpadkoaa.K
open Go Go.RowKit Go.Proofs.Ytioodpjcpadkoaa.T
set_option linter.unusedSimpArgs false
set_option linter.unusedVariables false
set_option maxHeartbeats 4000000

/-- in both worlds the same stands in the blocks named -/
def Keeps (ok : Nat → Bool) (w0 w : World) : Prop := ∀ b, ok b = true → w.heap[b]? = w0.heap[b]?

def FieldC (G : List (Nat × Bytes) → Prop) (P : Program) (X : STy) (f fPart : FuncId) : Prop :=
  ∀ (w : World) (h : Hd) (ty : Ty) (of_ : Int) (sub : Value) (ver : Int) (flex : Bool) (t : Tree) (tv : Value), ofOK of_ ty → SubV w (· < w.heap.size) ty sub → sub.oneCell' = true → SubC (PartC G P X fPart) ty →
    TV G w (· < w.heap.size) t tv → (wField ver flex h ty t).length ≤ lim →
    Calls P f #[fldV (kindOf ty) h.from_ h.to h.null (-1) h.dflt of_ sub, .int .i64 ver, .bool flex, tv] w (RetOwn X.U8 w (wField ver flex h ty t))

/-- the parts below all fields -/
def SubsC (C : Fs → Prop) : Fs → Prop
  | .nil => True
  | .cons _ ty r => SubC C ty ∧ SubsC C r

section
variable {G : List (Nat × Bytes) → Prop} {P : Program} {X : STy} {f : FuncId} {fn : Func} {fW fTh fC fWi fF fU fHas fNull fAt fPart fVal fFld : FuncId}
variable {a : Act} {w : World} {K : Act → World → Prop}

theorem opqk_of {w0 : World} {ok : Nat → Bool} {s : SOp} {v : Value} (h : qv ok P w0 a s.op = some v) : opq P (Keeps ok w0) s a v := fun o ho w' hS' =>
  qv_sound (w0 := w0) (fun b o hb => World.cell?_of_block (hS' b hb)) h o (congrArg SOp.op ho)

theorem dk_1 {w0 : World} {ok : Nat → Bool} {i d : Nat} {op : Op} {ops : List SOp} {v : Value} {r : List (Nat × Bool)} (hs : ops[i]? = some ⟨some d, op, none⟩) (h : qv ok P w0 a op = some v)
    (hk : dregw P (Keeps ok w0) ops r K (a.put (some d) v) w) : dregw P (Keeps ok w0) ops ((i, true) :: r) K a w := by
  unfold dregw
  exact ⟨_, hs, by simpa only [if_true] using ⟨v, opqk_of (s := ⟨some d, op, none⟩) h, hk⟩⟩
theorem dk_y {w0 : World} {ok : Nat → Bool} {i d j dj : Nat} {want : Bool} {op : Op} {ops : List SOp} {v : Value} {r : List (Nat × Bool)} (hs : ops[i]? = some ⟨some d, op, some (j, want)⟩) (hj : (ops[j]?).bind (·.dst) = some dj) (hlt : dj < a.tmps.size) (hb : getT a dj = .bool want) (h : qv ok P w0 a op = some v)
    (hk : dregw P (Keeps ok w0) ops r K (a.put (some d) v) w) : dregw P (Keeps ok w0) ops ((i, true) :: r) K a w := by
  unfold dregw
  exact ⟨_, hs, dj, want, hj, hlt, .inl hb, by simpa only [if_true] using ⟨v, opqk_of (s := ⟨some d, op, some (j, want)⟩) h, hk⟩⟩

theorem own_lt {tU8 : Nat} {w : World} {B : Nat} {v : Value} {xs : Bytes} (h : Own tU8 w B v xs) : ∀ k, v.ownBlock = some k → B ≤ k ∧ k < w.heap.size := fun k hk => h.lt k hk
theorem own_same {tU8 : Nat} {w w' : World} {B : Nat} {v : Value} {xs : Bytes} (h : Own tU8 w B v xs) (hb : ∀ k, v.ownBlock = some k → w'.heap[k]? = w.heap[k]?) : Own tU8 w' B v xs := by
  refine ⟨h.1, h.2.imp id ?_⟩
  rintro ⟨g, cap, cur, h1, h2, h3, h4⟩
  refine ⟨g, cap, cur, h1, h2, ?_, h4⟩
  rw [hb g (by rw [h1]; rfl)]
  exact h3

theorem fsAt_drop {w : World} {F : Nat → Prop} : ∀ (i : Nat) (fs : Fs) (b o : Nat), FsAt w F fs b o → FsAt w F (Fs.drop i fs) b (o + i * 8)
  | 0, fs, b, o, h => by simpa [Fs.drop] using h
  | i + 1, .nil, b, o, _ => by simp [Fs.drop, FsAt]
  | i + 1, .cons h ty r, b, o, hh => by
    simp only [FsAt] at hh
    have := fsAt_drop i r b (o + 8) hh.2
    rwa [show o + 8 + i * 8 = o + (i + 1) * 8 by omega] at this
theorem drop_cons : ∀ (i : Nat) (fs : Fs), i < Fs.len fs → ∃ h ty, Fs.drop i fs = .cons h ty (Fs.drop (i + 1) fs)
  | i, .nil, h => by simp [Fs.len] at h
  | 0, .cons h ty r, _ => ⟨h, ty, by simp [Fs.drop]⟩
  | i + 1, .cons h ty r, hi => by
    simp only [Fs.drop]
    exact drop_cons i r (by simp only [Fs.len] at hi; omega)
theorem drop_len : ∀ (fs : Fs), Fs.drop (Fs.len fs) fs = .nil
  | .nil => rfl
  | .cons h ty r => by simp only [Fs.len, Fs.drop]; exact drop_len r
theorem subsC_drop {C : Fs → Prop} : ∀ (i : Nat) (fs : Fs), SubsC C fs → SubsC C (Fs.drop i fs)
  | 0, fs, h => by simpa [Fs.drop] using h
  | i + 1, .nil, _ => by simp [Fs.drop, SubsC]
  | i + 1, .cons h ty r, hh => by
    simp only [SubsC] at hh
    simp only [Fs.drop]
    exact subsC_drop i r hh.2

theorem headD_drop (l : List Tree) (i : Nat) : (l.drop i).tail = l.drop (i + 1) := by simp

/-- the loop over the fields -/
theorem fields_loop (hX : stOK P X = true) (hTF : arrB P X.F 8 = true) (S : SmallC P X fW fTh fC fWi fF fU fHas fNull fAt G) (hm : P.follows .mixedOrders = true) (oF : FnOK P fFld) (cFd : FieldC G P X fFld fPart)
    {a : Act} {w w1 : World} {Q : Exit → Act → World → Prop} (fs : Fs) (fb : Option Addr) (fcap : Nat) (cP : SubsC (PartC G P X fPart) fs)
    (hfs : Fs.len fs = 0 ∨ ∃ b o, fb = some ⟨b, o, none⟩ ∧ b < w.heap.size ∧ FsAt w (· < w.heap.size) fs b o) (hlen63 : Fs.len fs < 4294967296)
    (ver : Int) (flex : Bool) (t : Tree) (n : Int) (s l u : Value) (tnull : Bool) (ht : TV G w (· < w.heap.size) t (treV n s tnull l u))
    (hbw : Below w.heap.size w w1) (hsz : w.heap.size + 1 ≤ w1.heap.size) (hT5 : rangeV w1 w.heap.size 0 5 = some [.int .i64 n, s, .bool tnull, l, u])
    (g : a.tmps.size = 132) (g0 : getT a 0 = .slice fb (Fs.len fs) fcap) (g1 : getT a 1 = .int .i64 ver) (g2 : getT a 2 = .bool flex) (g7 : getT a 7 = .pointer (some ⟨w.heap.size, 0, none⟩)) (g9 : getT a 9 = .slice none 0 0)
    (hl : (wFs ver flex fs t.l).length ≤ lim)
    (hQ : ∀ (a' : Act) (w' : World), a'.tmps.size = 132 → a'.defers = a.defers → (∀ s, s < 12 → s ≠ 9 → getT a' s = getT a s) → Own X.U8 w' (w.heap.size + 1) (getT a' 9) (wFs ver flex fs t.l) → Below (w.heap.size + 1) w1 w' → Q .normal a' w') :
    SC.wp P (.seq (.reg [mv 21 0, lenOp 22 X.Fs 21, ⟨some 23, .move (.const (.int .i64 0)), none⟩]) (.block 0 (.loop (.seq (.reg [⟨some 24, .binOp .lss X.I (.tmp 23) (.tmp 22) X.I, none⟩]) (.seq (.cond (.tmp 24) (.skip) (.exit 0)) (.seq (.block 1 (.seq (.reg [mv 25 23, ⟨some 26, .indexAddr X.Fs (.tmp 21) (.tmp 23), none⟩, ld 27 X.F 26, ⟨some 13, .alloc X.F, none⟩, asg 12 25, ⟨none, .store X.F (.tmp 13) (.tmp 27), none⟩]) (.seq (.reg [fa 28 X.F 13 4, ld 29 X.I 28, ⟨some 30, .binOp .lss X.I (.tmp 29) (.const (.int .i64 0)) X.I, none⟩, mv 31 30, ⟨some 32, .load X.F (.tmp 13), some (3, true)⟩, ⟨some 33, .move (.tmp 1), some (3, true)⟩, ⟨some 34, .call ⟨.value (.func fHas), #[(.tmp 32), (.tmp 33)], #[]⟩, some (3, true)⟩, ⟨some 35, .pick (.tmp 31) (.tmp 34) (.const (.bool false)), none⟩]) (.cond (.tmp 35) (.dreg [mv 36 9, ld 37 X.F 13, mv 38 1, mv 39 2, ld 40 X.T 7, mv 41 12, cal 42 fAt [40, 41], cal 43 fFld [37, 38, 39, 42], ⟨some 44, .call ⟨.builtin .append, #[(.tmp 36), (.tmp 43)], #[X.Bs, X.Bs]⟩, none⟩, asg 9 44] [[], [], [], [], [], [], [4, 5], [1, 2, 3, 6, 6], [0, 7, 7], [8, 8, 0, 1, 2, 3, 4, 5, 6, 7, 8]]) (.skip))))) (.reg [⟨some 45, .binOp .add X.I (.tmp 23) (.const (.int .i64 1)) X.I, none⟩, mv 23 45]))))))) Q a w1 := by
  have hst := st_facts hX
  have hU8s := hst.2.2.1.1
  have hlim : lim = 70368744177664 := rfl
  obtain ⟨hTF1, iF, zF, hiF, hzF, hzFs⟩ := arr_of hTF
  refine SC.wp_seq (SC.wp_reg ?_)
  repeat (first | (apply ops_1; (focus (simp (disch := first | omega | (simp only [size_put]; omega)) [qv, qcall, vop, iop, eval_tmp, eval_const, put_none, getT_put, getT_put_ne, hst, g0]; try rfl))) | (apply ops_y; (focus rfl); (focus (first | omega | (simp only [size_put]; omega))); (focus (simp (disch := first | omega | (simp only [size_put]; omega)) [put_none, getT_put, getT_put_ne, hst, g0]; done)); (focus (simp (disch := first | omega | (simp only [size_put]; omega)) [qv, qcall, vop, iop, eval_tmp, eval_const, put_none, getT_put, getT_put_ne, hst, g0]; try rfl))) | (apply ops_n; (focus rfl); (focus (first | omega | (simp only [size_put]; omega))); (focus (first | (left; simp (disch := first | omega | (simp only [size_put]; omega)) [put_none, getT_put, getT_put_ne, hst, g0]; done) | (right; simp (disch := first | omega | (simp only [size_put]; omega)) [put_none, getT_put, getT_put_ne]; done)))))
  refine ops_nil ?_
  simp only [Exit.then]
  refine SC.wp_block (SC.wp_loop (fun a4 w5 => ∃ (j : Nat) (xs : Bytes), a4.tmps.size = 132 ∧ a4.defers = a.defers ∧ (∀ s, s < 12 → s ≠ 9 → getT a4 s = getT a s) ∧ getT a4 21 = .slice fb (Fs.len fs) fcap ∧ getT a4 22 = .int .i64 (Fs.len fs : Int) ∧ getT a4 23 = .int .i64 (j : Int) ∧ j ≤ Fs.len fs ∧
      Own X.U8 w5 (w.heap.size + 1) (getT a4 9) xs ∧ xs ++ wFs ver flex (Fs.drop j fs) (t.l.drop j) = wFs ver flex fs t.l ∧ Below (w.heap.size + 1) w1 w5)
    (fun a4 _ => match getT a4 23 with | .int _ m => (Fs.len fs - m).toNat | _ => 0) ⟨0, [], by simp [size_put, g], by simp [defers_put], ?_, by simp (disch := first | omega | (simp only [size_put]; omega)) [eval_tmp, eval_const, put_none, getT_put, getT_put_ne], by simp (disch := first | omega | (simp only [size_put]; omega)) [eval_tmp, eval_const, put_none, getT_put, getT_put_ne], by simp (disch := first | omega | (simp only [size_put]; omega)) [eval_tmp, eval_const, put_none, getT_put, getT_put_ne], by omega, by simp (disch := first | omega | (simp only [size_put]; omega)) [eval_tmp, eval_const, put_none, getT_put, getT_put_ne, g9]; exact own_nil _ _ _, by simp [Fs.drop], Below.refl _ _⟩ ?_)
  · intro s h1 h2
    simp (disch := omega) [getT_put_ne]
  rintro a4 w5 ⟨j, xs, q, qd, qs, q21, q22, q23, hj, ho, hx, hb5⟩
  have hsz5 : w.heap.size + 1 ≤ w5.heap.size := by have := hb5.size; omega
  refine SC.wp_seq (SC.wp_reg ?_)
  repeat (first | (apply ops_1; (focus (simp (disch := first | omega | (simp only [size_put]; omega)) [qv, qcall, vop, iop, eval_tmp, eval_const, put_none, getT_put, getT_put_ne, hst, q22, q23]; try rfl))) | (apply ops_y; (focus rfl); (focus (first | omega | (simp only [size_put]; omega))); (focus (simp (disch := first | omega | (simp only [size_put]; omega)) [put_none, getT_put, getT_put_ne, hst, q22, q23]; done)); (focus (simp (disch := first | omega | (simp only [size_put]; omega)) [qv, qcall, vop, iop, eval_tmp, eval_const, put_none, getT_put, getT_put_ne, hst, q22, q23]; try rfl))) | (apply ops_n; (focus rfl); (focus (first | omega | (simp only [size_put]; omega))); (focus (first | (left; simp (disch := first | omega | (simp only [size_put]; omega)) [put_none, getT_put, getT_put_ne, hst, q22, q23]; done) | (right; simp (disch := first | omega | (simp only [size_put]; omega)) [put_none, getT_put, getT_put_ne]; done)))))
  refine ops_nil ?_
  simp only [Exit.then]
  refine SC.wp_seq (SC.wp_cond (t := decide ((j : Int) < (Fs.len fs : Int))) (by simp (disch := first | omega | (simp only [size_put]; omega)) [eval_tmp, eval_const, put_none, getT_put, getT_put_ne]) ?_)
  cases e1 : decide ((j : Int) < (Fs.len fs : Int))
  · have hje : j = Fs.len fs := by simp at e1; omega
    subst hje
    rw [if_neg (by simp)]
    refine SC.wp_exit ?_
    simp only [Exit.then, Exit.inBlock, if_true]
    rw [drop_len, wFs, List.append_nil] at hx
    refine hQ _ _ (by simp [size_put, q]) (by simp [defers_put, qd]) ?_ ?_ hb5
    · intro s h1 h2
      rw [← qs s h1 h2]
      simp (disch := omega) [getT_put_ne]
    · rw [← hx]
      refine own_eq ho ?_
      simp (disch := first | omega | (simp only [size_put]; omega)) [eval_tmp, eval_const, put_none, getT_put, getT_put_ne]
  · have hjl : j < Fs.len fs := by simp at e1; omega
    rw [if_pos rfl]
    refine SC.wp_skip ?_
    simp only [Exit.then]
    obtain ⟨h, ty, hdrop⟩ := drop_cons j fs hjl
    rcases hfs with hfs | ⟨b, o, rfl, hbF, hfs⟩
    · omega
    have hfj := fsAt_drop j fs b o hfs
    have hcj := subsC_drop j fs cP
    rw [hdrop] at hfj hcj hx
    simp only [FsAt, SubsC] at hfj hcj
    obtain ⟨⟨of_, sub, hr8, h1c, hof, hsub⟩, _⟩ := hfj
    have hb5' : Below w.heap.size w w5 := hbw.trans (hb5.mono (by omega))
    have hr8' := (rangeV_mono (w := w5) (hb5'.block b hbF) 8 (o + j * 8)).trans hr8
    have ej : (0 : Int) ≤ (j : Int) ∧ (j : Int) < (Fs.len fs : Int) := by omega
    have k0 := (qs 0 (by decide) (by decide)).trans g0
    have k1 := (qs 1 (by decide) (by decide)).trans g1
    have k2 := (qs 2 (by decide) (by decide)).trans g2
    have k7 := (qs 7 (by decide) (by decide)).trans g7
    refine SC.wp_seq (SC.wp_block (SC.wp_seq (SC.wp_reg ?_)))
    iterate 3 (first | (apply ops_1; (focus (simp (disch := first | omega | (simp only [size_put]; omega)) [qv, qcall, vop, iop, eval_tmp, eval_const, put_none, getT_put, getT_put_ne, hst, q21, q23, ej, hr8', hjl]; try rfl))) | (apply ops_y; (focus rfl); (focus (first | omega | (simp only [size_put]; omega))); (focus (simp (disch := first | omega | (simp only [size_put]; omega)) [put_none, getT_put, getT_put_ne, hst, q21, q23, ej, hr8', hjl]; done)); (focus (simp (disch := first | omega | (simp only [size_put]; omega)) [qv, qcall, vop, iop, eval_tmp, eval_const, put_none, getT_put, getT_put_ne, hst, q21, q23, ej, hr8', hjl]; try rfl))) | (apply ops_n; (focus rfl); (focus (first | omega | (simp only [size_put]; omega))); (focus (first | (left; simp (disch := first | omega | (simp only [size_put]; omega)) [put_none, getT_put, getT_put_ne, hst, q21, q23, ej, hr8', hjl]; done) | (right; simp (disch := first | omega | (simp only [size_put]; omega)) [put_none, getT_put, getT_put_ne]; done)))))
    refine opsw_none rfl (opw_alloc hiF hzF ?_)
    iterate 1 (first | (apply ops_1; (focus (simp (disch := first | omega | (simp only [size_put]; omega)) [qv, qcall, vop, iop, eval_tmp, eval_const, put_none, getT_put, getT_put_ne]; try rfl))) | (apply ops_y; (focus rfl); (focus (first | omega | (simp only [size_put]; omega))); (focus (simp (disch := first | omega | (simp only [size_put]; omega)) [put_none, getT_put, getT_put_ne]; done)); (focus (simp (disch := first | omega | (simp only [size_put]; omega)) [qv, qcall, vop, iop, eval_tmp, eval_const, put_none, getT_put, getT_put_ne]; try rfl))) | (apply ops_n; (focus rfl); (focus (first | omega | (simp only [size_put]; omega))); (focus (first | (left; simp (disch := first | omega | (simp only [size_put]; omega)) [put_none, getT_put, getT_put_ne]; done) | (right; simp (disch := first | omega | (simp only [size_put]; omega)) [put_none, getT_put, getT_put_ne]; done)))))
    refine opsw_none rfl (opw_store_agg (b := w5.heap.size) (cs := [.int .i64 (kindOf ty), .int .i64 h.from_, .int .i64 h.to, .int .i64 h.null, .int .i64 (-1), .int .i64 h.dflt, .int .i64 of_, sub]) hTF1 (by simp (disch := first | omega | (simp only [size_put]; omega)) [eval_tmp, eval_const, put_none, getT_put, getT_put_ne]) (by simp (disch := first | omega | (simp only [size_put]; omega)) [eval_tmp, eval_const, put_none, getT_put, getT_put_ne]) (heap_alloc_new w5 _) (by simp [hzFs]) (by
      intro v hv
      simp only [List.mem_cons, List.not_mem_nil, or_false] at hv
      rcases hv with rfl | rfl | rfl | rfl | rfl | rfl | rfl | rfl <;> first | rfl | exact h1c) (ops_nil ?_))
    have hnew : ((w5.alloc (.cells zF.cells X.F)).setRow w5.heap.size #[.int .i64 (kindOf ty), .int .i64 h.from_, .int .i64 h.to, .int .i64 h.null, .int .i64 (-1), .int .i64 h.dflt, .int .i64 of_, sub]).heap[w5.heap.size]? = some (.cells #[.int .i64 (kindOf ty), .int .i64 h.from_, .int .i64 h.to, .int .i64 h.null, .int .i64 (-1), .int .i64 h.dflt, .int .i64 of_, sub] X.F (0, 0)) := setRow_heap _ _ _ _ _ _ (heap_alloc_new w5 _)
    have hb6 : Below w5.heap.size w5 ((w5.alloc (.cells zF.cells X.F)).setRow w5.heap.size #[.int .i64 (kindOf ty), .int .i64 h.from_, .int .i64 h.to, .int .i64 h.null, .int .i64 (-1), .int .i64 h.dflt, .int .i64 of_, sub]) := below_setRow ((Below.refl _ _).alloc (Nat.le_refl _) _) (Nat.le_refl _) _
    have hsz6 : ((w5.alloc (.cells zF.cells X.F)).setRow w5.heap.size #[.int .i64 (kindOf ty), .int .i64 h.from_, .int .i64 h.to, .int .i64 h.null, .int .i64 (-1), .int .i64 h.dflt, .int .i64 of_, sub]).heap.size = w5.heap.size + 1 := by simp
    simp only [Exit.then, put_none]
    generalize ((w5.alloc (.cells zF.cells X.F)).setRow w5.heap.size #[.int .i64 (kindOf ty), .int .i64 h.from_, .int .i64 h.to, .int .i64 h.null, .int .i64 (-1), .int .i64 h.dflt, .int .i64 of_, sub]) = w6 at *
    have hc6 : ∀ i, w6.cell? ⟨w5.heap.size, i, none⟩ = #[Value.int .i64 (kindOf ty), .int .i64 h.from_, .int .i64 h.to, .int .i64 h.null, .int .i64 (-1), .int .i64 h.dflt, .int .i64 of_, sub][i]? := fun i => cell_of_row _ _ _ _ _ _ hnew
    have hF8 : rangeV w6 w5.heap.size 0 8 = some [.int .i64 (kindOf ty), .int .i64 h.from_, .int .i64 h.to, .int .i64 h.null, .int .i64 (-1), .int .i64 h.dflt, .int .i64 of_, sub] := by simp [rangeV, hc6]
    refine gen_act (fun a6 => a6.tmps.size = 132 ∧ a6.defers = a.defers ∧ (∀ s, s < 12 → s ≠ 9 → getT a6 s = getT a s) ∧ getT a6 9 = getT a4 9 ∧ getT a6 21 = .slice (some ⟨b, o, none⟩) (Fs.len fs) fcap ∧ getT a6 22 = .int .i64 (Fs.len fs : Int) ∧ getT a6 23 = .int .i64 (j : Int) ∧ getT a6 12 = .int .i64 (j : Int) ∧ getT a6 13 = .pointer (some ⟨w5.heap.size, 0, none⟩))
      ⟨by simp [size_put, q], by simp [defers_put, qd], ?_, by simp (disch := first | omega | (simp only [size_put]; omega)) [eval_tmp, eval_const, put_none, getT_put, getT_put_ne], by simp (disch := first | omega | (simp only [size_put]; omega)) [eval_tmp, eval_const, put_none, getT_put, getT_put_ne, q21], by simp (disch := first | omega | (simp only [size_put]; omega)) [eval_tmp, eval_const, put_none, getT_put, getT_put_ne, q22], by simp (disch := first | omega | (simp only [size_put]; omega)) [eval_tmp, eval_const, put_none, getT_put, getT_put_ne, q23], by simp (disch := first | omega | (simp only [size_put]; omega)) [eval_tmp, eval_const, put_none, getT_put, getT_put_ne], by simp (disch := first | omega | (simp only [size_put]; omega)) [eval_tmp, eval_const, put_none, getT_put, getT_put_ne]⟩ ?_
    · intro s h1 h2
      rw [← qs s h1 h2]
      simp (disch := omega) [getT_put_ne]
    rintro a6 ⟨p, pd, ps, p9, p21, p22, p23, p12, p13⟩
    have k1 := (ps 1 (by decide) (by decide)).trans g1
    have k2 := (ps 2 (by decide) (by decide)).trans g2
    have k7 := (ps 7 (by decide) (by decide)).trans g7
    clear q qd qs q21 q22 k0
    refine SC.wp_seq (SC.wp_reg ?_)
    iterate 6 (first | (apply ops_1; (focus (simp (disch := first | omega | (simp only [size_put]; omega)) [qv, qcall, vop, iop, eval_tmp, eval_const, put_none, getT_put, getT_put_ne, hst, hc6, hF8, k1, p13]; try rfl))) | (apply ops_y; (focus rfl); (focus (first | omega | (simp only [size_put]; omega))); (focus (simp (disch := first | omega | (simp only [size_put]; omega)) [put_none, getT_put, getT_put_ne, hst, hc6, hF8, k1, p13]; done)); (focus (simp (disch := first | omega | (simp only [size_put]; omega)) [qv, qcall, vop, iop, eval_tmp, eval_const, put_none, getT_put, getT_put_ne, hst, hc6, hF8, k1, p13]; try rfl))) | (apply ops_n; (focus rfl); (focus (first | omega | (simp only [size_put]; omega))); (focus (first | (left; simp (disch := first | omega | (simp only [size_put]; omega)) [put_none, getT_put, getT_put_ne, hst, hc6, hF8, k1, p13]; done) | (right; simp (disch := first | omega | (simp only [size_put]; omega)) [put_none, getT_put, getT_put_ne]; done)))))
    obtain ⟨fnH, hH1, hH2, hH3⟩ := S.oH
    refine opsw_yes rfl rfl (by first | omega | (simp only [size_put]; omega)) (by simp (disch := first | omega | (simp only [size_put]; omega)) [eval_tmp, eval_const, put_none, getT_put, getT_put_ne]) (opw_call hH1 hH2 hH3 (R := fun e w' => e = .returned (.bool (h.has ver)) ∧ Below w6.heap.size w6 w') ?_ ?_)
    · refine Eq.mp (congrArg (fun z => Calls P fHas z w6 _) ?_) (S.cH w6 (kindOf ty) h.from_ h.to h.null (-1) h.dflt of_ sub ver)
      simp (disch := first | omega | (simp only [size_put]; omega)) [eval_tmp, eval_const, put_none, getT_put, getT_put_ne, fldV]
    rintro e w7 ⟨rfl, hb7⟩
    refine ⟨_, rfl, ?_⟩
    repeat (first | (apply ops_1; (focus (simp (disch := first | omega | (simp only [size_put]; omega)) [qv, qcall, vop, iop, eval_tmp, eval_const, put_none, getT_put, getT_put_ne]; try rfl))) | (apply ops_y; (focus rfl); (focus (first | omega | (simp only [size_put]; omega))); (focus (simp (disch := first | omega | (simp only [size_put]; omega)) [put_none, getT_put, getT_put_ne]; done)); (focus (simp (disch := first | omega | (simp only [size_put]; omega)) [qv, qcall, vop, iop, eval_tmp, eval_const, put_none, getT_put, getT_put_ne]; try rfl))) | (apply ops_n; (focus rfl); (focus (first | omega | (simp only [size_put]; omega))); (focus (first | (left; simp (disch := first | omega | (simp only [size_put]; omega)) [put_none, getT_put, getT_put_ne]; done) | (right; simp (disch := first | omega | (simp only [size_put]; omega)) [put_none, getT_put, getT_put_ne]; done)))))
    refine ops_nil ?_
    simp only [Exit.then]
    have hb7' : Below w5.heap.size w5 w7 := hb6.trans (hb7.mono (by omega))
    have hsz7 : w5.heap.size + 1 ≤ w7.heap.size := by have := hb7.size; omega
    have hnew7 : w7.heap[w5.heap.size]? = w6.heap[w5.heap.size]? := hb7.block _ (by omega)
    have ew : IntKind.i64.wrap ((j : Int) + 1) = ((j + 1 : Nat) : Int) := by rw [wrap_i64']; split <;> omega
    have next : ∀ (a' : Act) (w' : World) (ys : Bytes) (Q' : Exit → Act → World → Prop), a'.tmps.size = 132 → a'.defers = a.defers → (∀ s, s < 12 → s ≠ 9 → getT a' s = getT a s) → getT a' 21 = .slice (some ⟨b, o, none⟩) (Fs.len fs) fcap → getT a' 22 = .int .i64 (Fs.len fs : Int) → getT a' 23 = .int .i64 (j : Int) →
        Own X.U8 w' (w.heap.size + 1) (getT a' 9) ys → ys = xs ++ (if h.has ver then wField ver flex h ty ((t.l.drop j).headD Tree.zero) else []) → Below (w.heap.size + 1) w5 w' →
        (∀ a'' w'', (∃ (j : Nat) (xs : Bytes), a''.tmps.size = 132 ∧ a''.defers = a.defers ∧ (∀ s, s < 12 → s ≠ 9 → getT a'' s = getT a s) ∧ getT a'' 21 = .slice (some ⟨b, o, none⟩) (Fs.len fs) fcap ∧ getT a'' 22 = .int .i64 (Fs.len fs : Int) ∧ getT a'' 23 = .int .i64 (j : Int) ∧ j ≤ Fs.len fs ∧
          Own X.U8 w'' (w.heap.size + 1) (getT a'' 9) xs ∧ xs ++ wFs ver flex (Fs.drop j fs) (t.l.drop j) = wFs ver flex fs t.l ∧ Below (w.heap.size + 1) w1 w'') → (match getT a'' 23 with | .int _ m => (Fs.len fs - m).toNat | _ => 0) < (Fs.len fs - (j : Int)).toNat → Q' .normal a'' w'') →
        SC.wp P (.reg [⟨some 45, .binOp .add X.I (.tmp 23) (.const (.int .i64 1)) X.I, none⟩, mv 23 45]) Q' a' w' := by
      intro a' w' ys Q' z zd zs z21 z22 z23 zo hy zb hq
      refine SC.wp_reg ?_
      repeat (first | (apply ops_1; (focus (simp (disch := first | omega | (simp only [size_put]; omega)) [qv, qcall, vop, iop, eval_tmp, eval_const, put_none, getT_put, getT_put_ne, z23, ew]; try rfl))) | (apply ops_y; (focus rfl); (focus (first | omega | (simp only [size_put]; omega))); (focus (simp (disch := first | omega | (simp only [size_put]; omega)) [put_none, getT_put, getT_put_ne, z23, ew]; done)); (focus (simp (disch := first | omega | (simp only [size_put]; omega)) [qv, qcall, vop, iop, eval_tmp, eval_const, put_none, getT_put, getT_put_ne, z23, ew]; try rfl))) | (apply ops_n; (focus rfl); (focus (first | omega | (simp only [size_put]; omega))); (focus (first | (left; simp (disch := first | omega | (simp only [size_put]; omega)) [put_none, getT_put, getT_put_ne, z23, ew]; done) | (right; simp (disch := first | omega | (simp only [size_put]; omega)) [put_none, getT_put, getT_put_ne]; done)))))
      refine ops_nil (hq _ _ ⟨j + 1, ys, by simp [size_put, z], by simp [defers_put, zd], ?_, by simp (disch := first | omega | (simp only [size_put]; omega)) [eval_tmp, eval_const, put_none, getT_put, getT_put_ne, z21], by simp (disch := first | omega | (simp only [size_put]; omega)) [eval_tmp, eval_const, put_none, getT_put, getT_put_ne, z22], by simp (disch := first | omega | (simp only [size_put]; omega)) [eval_tmp, eval_const, put_none, getT_put, getT_put_ne], by omega, ?_, ?_, hb5.trans zb⟩ ?_)
      · intro s h1 h2
        rw [← zs s h1 h2]
        simp (disch := omega) [getT_put_ne]
      · refine own_eq zo ?_
        simp (disch := first | omega | (simp only [size_put]; omega)) [eval_tmp, eval_const, put_none, getT_put, getT_put_ne]
      · rw [hy, List.append_assoc, ← headD_drop, ← wFs_cons]
        exact hx
      · simp (disch := first | omega | (simp only [size_put]; omega)) [eval_tmp, eval_const, put_none, getT_put, getT_put_ne]; omega
    refine SC.wp_cond (t := h.has ver) (by simp (disch := first | omega | (simp only [size_put]; omega)) [eval_tmp, eval_const, put_none, getT_put, getT_put_ne]) ?_
    cases hh : h.has ver
    · rw [if_neg (by simp)]
      refine SC.wp_skip ?_
      simp only [Exit.inBlock, Exit.then]
      refine next _ _ xs _ (by simp [size_put, p]) (by simp [defers_put, pd]) ?_ (by simp (disch := first | omega | (simp only [size_put]; omega)) [eval_tmp, eval_const, put_none, getT_put, getT_put_ne, p21]) (by simp (disch := first | omega | (simp only [size_put]; omega)) [eval_tmp, eval_const, put_none, getT_put, getT_put_ne, p22]) (by simp (disch := first | omega | (simp only [size_put]; omega)) [eval_tmp, eval_const, put_none, getT_put, getT_put_ne, p23]) ?_ (by simp [hh]) (hb7'.mono (by omega)) ?_
      · intro s h1 h2
        rw [← ps s h1 h2]
        simp (disch := omega) [getT_put_ne]
      · refine own_eq (own_keep ho hb7') ?_
        simp (disch := first | omega | (simp only [size_put]; omega)) [eval_tmp, eval_const, put_none, getT_put, getT_put_ne, p9]
      · intro a'' w'' hI hlt
        exact ⟨hI, by rw [q23]; exact hlt⟩
    · rw [if_pos rfl]
      have hF8d : rangeV w7.drew w5.heap.size 0 8 = some [.int .i64 (kindOf ty), .int .i64 h.from_, .int .i64 h.to, .int .i64 h.null, .int .i64 (-1), .int .i64 h.dflt, .int .i64 of_, sub] := (rangeV_mono (w := w7.drew) (w0 := w6) hnew7 8 0).trans hF8
      have hT5d : rangeV w7.drew w.heap.size 0 5 = some [.int .i64 n, s, .bool tnull, l, u] := (rangeV_mono (w := w7.drew) (w0 := w1) ((hb7'.block _ (by omega)).trans (hb5.block _ (by omega))) 5 0).trans hT5
      have hb7w : Below w.heap.size w w7 := hb5'.trans (hb7'.mono (by omega))
      refine SC.wp_dreg hm (Keeps (fun b => b == w.heap.size || b == w5.heap.size) w7.drew) [(0, true), (1, true), (2, true), (3, true), (4, true), (5, true), (6, false), (7, false), (8, false), (9, true)] (by rfl) (by rfl) (by decide) (fun _ _ => rfl) ?_
      iterate 6 (first | (apply dk_1; (focus rfl); (focus (simp (disch := first | omega | (simp only [size_put]; omega)) [qv, qcall, vop, iop, eval_tmp, eval_const, put_none, getT_put, getT_put_ne, hst, k1, k2, k7, p12, p13, hF8d, hT5d]; try rfl))) | (apply dk_y; (focus rfl); (focus rfl); (focus (first | omega | (simp only [size_put]; omega))); (focus (simp (disch := first | omega | (simp only [size_put]; omega)) [put_none, getT_put, getT_put_ne, hst, k1, k2, k7, p12, p13, hF8d, hT5d]; done)); (focus (simp (disch := first | omega | (simp only [size_put]; omega)) [qv, qcall, vop, iop, eval_tmp, eval_const, put_none, getT_put, getT_put_ne, hst, k1, k2, k7, p12, p13, hF8d, hT5d]; try rfl))))
      have hkeep : ∀ (wa wb : World), w5.heap.size + 1 ≤ wa.heap.size → Below wa.heap.size wa wb → Keeps (fun b => b == w.heap.size || b == w5.heap.size) w7.drew wa → Keeps (fun b => b == w.heap.size || b == w5.heap.size) w7.drew wb := by
        intro wa wb z1 z2 z3 bb hbb
        have : bb < wa.heap.size := by
          simp only [Bool.or_eq_true, beq_iff_eq] at hbb
          omega
        exact (z2.block bb this).trans (z3 bb hbb)
      refine dreg_call rfl S.oA (S.cA w7.drew t (treV n s tnull l u) j (TV.down hb7w.drew (by show w.heap.size ≤ w7.heap.size; omega) ht)) (by simp (disch := first | omega | (simp only [size_put]; omega)) [eval_tmp, eval_const, put_none, getT_put, getT_put_ne, treV]) ?_
      rintro e w8 ⟨tv, rfl, htv, hb8⟩
      have hb8 : Below w7.heap.size w7.drew w8 := hb8
      have hk8 := hkeep w7.drew w8 (by show _ ≤ w7.heap.size; omega) hb8 (fun _ _ => rfl)
      refine ⟨tv, rfl, hk8, ?_⟩
      have hsz8 : w7.heap.size ≤ w8.heap.size := hb8.size
      have hb8w : Below w.heap.size w w8 := hb7w.drew.trans (hb8.mono (by omega))
      have hlf : (wField ver flex h ty ((t.l.drop j).headD Tree.zero)).length ≤ lim ∧ xs.length + (wField ver flex h ty ((t.l.drop j).headD Tree.zero)).length ≤ lim := by
        rw [wFs_cons, hh, if_pos rfl] at hx
        have := congrArg List.length hx
        simp only [List.length_append] at this
        omega
      refine dreg_call rfl oF (cFd w8 h ty of_ sub ver flex ((t.l.drop j).headD Tree.zero) tv hof (SubV.mono (w := w8) (F' := fun x => x < w8.heap.size) (fun k hk => by have : k < w.heap.size := hk; show k < w8.heap.size; omega) (fun k hk => hb8w.block k hk) ty sub hsub) h1c hcj.1 (TV.down hb8 (by omega) htv) hlf.1) (by simp (disch := first | omega | (simp only [size_put]; omega)) [eval_tmp, eval_const, put_none, getT_put, getT_put_ne, fldV]) ?_
      rintro e w9 ⟨v2, rfl, ho2, hb9⟩
      have hk9 := hkeep w8 w9 (by omega) hb9 hk8
      refine ⟨v2, rfl, hk9, ?_⟩
      have hsz9 : w8.heap.size ≤ w9.heap.size := hb9.size
      have hb59 : Below w5.heap.size w5 w9 := hb7'.drew.trans ((hb8.mono (by omega)).trans (hb9.mono (by omega)))
      have ho9 : Own X.U8 w9 (w.heap.size + 1) (getT a4 9) xs := own_keep ho hb59
      refine dreg_n rfl rfl (opw_appendU8 (B := w.heap.size + 1) (dv := getT a4 9) (xv := v2) (xs := xs) (bs := wField ver flex h ty ((t.l.drop j).headD Tree.zero)) hU8s (by simp (disch := first | omega | (simp only [size_put]; omega)) [eval_tmp, eval_const, put_none, getT_put, getT_put_ne, p9]) (by simp (disch := first | omega | (simp only [size_put]; omega)) [eval_tmp, eval_const, put_none, getT_put, getT_put_ne]) rfl ho9 (by omega) (src_own hU8s ho2) hlf.2 ?_)
      intro v3 w10 z1 z2 z3 z4
      refine ⟨fun bb hbb => ?_, ?_⟩
      · rw [← hk9 bb hbb]
        have hbb' : bb = w.heap.size ∨ bb = w5.heap.size := by simpa only [Bool.or_eq_true, beq_iff_eq] using hbb
        refine z4.block bb (by omega) (fun e => ?_)
        have := own_lt ho bb e.symm
        omega
      repeat (first | (apply dk_1; (focus rfl); (focus (simp (disch := first | omega | (simp only [size_put]; omega)) [qv, qcall, vop, iop, eval_tmp, eval_const, put_none, getT_put, getT_put_ne]; try rfl))) | (apply dk_y; (focus rfl); (focus rfl); (focus (first | omega | (simp only [size_put]; omega))); (focus (simp (disch := first | omega | (simp only [size_put]; omega)) [put_none, getT_put, getT_put_ne]; done)); (focus (simp (disch := first | omega | (simp only [size_put]; omega)) [qv, qcall, vop, iop, eval_tmp, eval_const, put_none, getT_put, getT_put_ne]; try rfl))))
      refine dreg_nil ?_
      simp only [Exit.inBlock, Exit.then]
      refine next _ _ (xs ++ wField ver flex h ty ((t.l.drop j).headD Tree.zero)) _ (by simp [size_put, p]) (by simp [defers_put, pd]) ?_ (by simp (disch := first | omega | (simp only [size_put]; omega)) [eval_tmp, eval_const, put_none, getT_put, getT_put_ne, p21]) (by simp (disch := first | omega | (simp only [size_put]; omega)) [eval_tmp, eval_const, put_none, getT_put, getT_put_ne, p22]) (by simp (disch := first | omega | (simp only [size_put]; omega)) [eval_tmp, eval_const, put_none, getT_put, getT_put_ne, p23]) ?_ (by simp [hh]) ((hb59.mono (by omega)).trans z2) ?_
      · intro s h1 h2
        rw [← ps s h1 h2]
        simp (disch := omega) [getT_put_ne]
      · refine own_eq z1 ?_
        simp (disch := first | omega | (simp only [size_put]; omega)) [eval_tmp, eval_const, put_none, getT_put, getT_put_ne]
      · intro a'' w'' hI hlt
        exact ⟨hI, by rw [q23]; exact hlt⟩
end
end Go.Proofs.Ytioodpjcpadkoaa.K
