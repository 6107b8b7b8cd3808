/- The reference's function 'field'. No condition. -/
import Derived.Test.YtioodpjcpadkoaaS7
namespace Go.Proofs.Ytioodpjcpadkoaa.K
open Go Go.RowKit Go.Proofs.Ytioodpjcpadkoaa.T
set_option linter.unusedSimpArgs false
set_option linter.unusedVariables false
set_option maxHeartbeats 4000000

def ValueC (G : List (Nat × Bytes) → Prop) (P : Program) (X : STy) (f : FuncId) (ty : Ty) : Prop :=
  ∀ (w : World) (sub : Value) (null : Bool) (ver : Int) (flex : Bool) (t : Tree) (tv : Value), SubV w (· < w.heap.size) ty sub → TV G w (· < w.heap.size) t tv → (wTy ver flex ty null t).length ≤ lim →
    Calls P f #[.int .i64 (kindOf ty), sub, .bool null, .int .i64 ver, .bool flex, tv] w (RetOwn X.U8 w (wTy ver flex ty null t))

section
variable {G : List (Nat × Bytes) → Prop} {P : Program} {X : STy} {f : FuncId} {fn : Func} {fW fTh fC fWi fF fU fHas fNull fAt fPart fVal : FuncId}

theorem gen_act {s : SC} {Q : Exit → Act → World → Prop} {a : Act} {w : World} (C : Act → Prop) (ha : C a) (h : ∀ a, C a → SC.wp P s Q a w) : SC.wp P s Q a w := h a ha
theorem opsw_gen {all r : List SOp} {K : Act → World → Prop} {a : Act} {w : World} (C : Act → Prop) (ha : C a) (h : ∀ a, C a → opsw P all r K a w) : opsw P all r K a w := h a ha
theorem dreg_call {S : World → Prop} {ops : List SOp} {i t g : Nat} {args : Array Operand} {argsV : Array Value} {r : List (Nat × Bool)} {a : Act} {w : World} {K : Act → World → Prop} {R : Ending → World → Prop} (hs : ops[i]? = some ⟨some t, .call ⟨.value (.func g), args, #[]⟩, none⟩) (hf : FnOK P g) (hc : Calls P g argsV w R) (hargs : args.map a.eval = argsV)
    (hR : ∀ e w', R e w' → ∃ v, e = .returned v ∧ S w' ∧ dregw P S ops r K (a.put (some t) v) w') : dregw P S ops ((i, false) :: r) K a w := by
  obtain ⟨fn, h1, h2, h3⟩ := hf
  exact dreg_n hs rfl (opw_call (R := R) h1 h2 h3 (by rw [hargs]; exact hc) hR)

theorem own_keep {tU8 : Nat} {w w' : World} {B : Nat} {v : Value} {xs : Bytes} (h : Own tU8 w B v xs) (hb : Below w.heap.size w w') : Own tU8 w' B v xs := by
  refine ⟨h.1, h.2.imp id ?_⟩
  rintro ⟨g, cap, cur, h1, h2, h3, h4⟩
  refine ⟨g, cap, cur, h1, h2, ?_, h4⟩
  rw [hb.block g (by rcases Nat.lt_or_ge g w.heap.size with h | h
                     · exact h
                     · rw [Array.getElem?_eq_none h] at h3; cases h3)]
  exact h3
theorem src_own {T tU8 : TypeId} (hT : u8sB P T tU8 = true) {w : World} {B : Nat} {v : Value} {bs : Bytes} (h : Own tU8 w B v bs) : Src P 1 T v bs.length (cellsOf bs) w := by
  obtain ⟨hu, _⟩ := u8s_of hT
  have hc := fun g (e : v.ownBlock = some g) => h.cells e
  rcases h.2 with ⟨rfl, h0⟩ | ⟨g, cap, cur, rfl, _⟩
  · have : bs = [] := List.eq_nil_of_length_eq_zero h0
    subst this
    exact Src.ofNil w hu 0
  · refine Src.ofSlice w hu ⟨g, 0, none⟩ _ cap _ (by rw [cellsOf_length, Nat.mul_one]) (hc g rfl) ?_
    intro u hu
    simp only [cellsOf, List.mem_map] at hu
    obtain ⟨c, _, rfl⟩ := hu
    rfl

theorem take_flat {α : Type} (l : List α) (enc : α → Bytes) (j : Nat) (hj : j < l.length) : (l.take (j + 1)).flatMap enc = (l.take j).flatMap enc ++ enc l[j] ∧ ((l.take j).flatMap enc).length + (enc l[j]).length ≤ (l.flatMap enc).length := by
  have e1 : l.take (j + 1) = l.take j ++ [l[j]] := by rw [List.take_add_one, List.getElem?_eq_getElem hj]; rfl
  refine ⟨by rw [e1]; simp only [List.flatMap_append, List.flatMap_cons, List.flatMap_nil, List.append_nil], ?_⟩
  have e2 : l = l.take j ++ (l[j] :: l.drop (j + 1)) := by rw [← List.drop_eq_getElem_cons hj, List.take_append_drop]
  have : (l.flatMap enc).length = ((l.take j).flatMap enc).length + ((enc l[j]).length + ((l.drop (j + 1)).flatMap enc).length) := by
    conv => lhs; rw [e2]
    rw [List.flatMap_append, List.flatMap_cons, List.length_append, List.length_append]
  omega

/-- a list's count and its elements -/
theorem list_tail (hX : stOK P X = true) (S : SmallC P X fW fTh fC fWi fF fU fHas fNull fAt G) (hm : P.follows .mixedOrders = true) (oV : FnOK P fVal) {of : Ty} (hV : ValueC G P X fVal of) {a : Act} {w w3 : World} {Q : Exit → Act → World → Prop}
    (F0 : Array Value) (sub : Value) (hF0 : F0.size = 8) (hF6 : F0[6]? = some (.int .i64 (kindOf of))) (hF7 : F0[7]? = some sub) (hc3 : ∀ j, w3.cell? ⟨w.heap.size, j, none⟩ = F0[j]?) (hbw : Below w.heap.size w w3) (hsz3 : w.heap.size + 2 ≤ w3.heap.size) (hsub : SubV w (· < w.heap.size) of sub)
    (ver : Int) (flex nl : Bool) (l : List Tree) (lb : Option Addr) (lc b o : Nat) (cs : Nat → List Value) (hlc : l.length ≤ lc) (hm63 : l.length ≤ most) (hll : l ≠ [] → lb = some ⟨b, o, none⟩ ∧ b < w.heap.size) (hrr : ∀ i, i < l.length → rangeV w b (o + i * 5) 5 = some (cs i)) (htt : ∀ i x, l[i]? = some x → TV G w (· < w.heap.size) x (.agg (cs i).toArray))
    (g : a.tmps.size = 76) (g1 : getT a 1 = .int .i64 ver) (g2 : getT a 2 = .bool flex) (g4 : getT a 4 = .pointer (some ⟨w.heap.size, 0, none⟩)) (g9 : getT a 9 = .bool nl) (g10 : getT a 10 = .slice lb l.length lc)
    (hl : (counted flex nl l.length 4 ++ l.flatMap (fun x => wTy ver flex of false x)).length ≤ lim)
    (hQ : ∀ (a' : Act) (w' : World) (v : Value), a'.defers = a.defers → getT a' 8 = v → Own X.U8 w' w.heap.size v (counted flex nl l.length 4 ++ l.flatMap (fun x => wTy ver flex of false x)) → Below w.heap.size w w' → Q .ret a' w') :
    SC.wp P (.seq (.reg [mv 24 2, mv 25 9, mv 26 10, lenOp 27 X.Ts 26, ⟨some 28, .call ⟨.value (.func fC), #[(.tmp 24), (.tmp 25), (.tmp 27), (.const (.int .i64 4))], #[]⟩, none⟩, asg 11 28]) (.seq (.seq (.reg [mv 29 10, lenOp 30 X.Ts 29, ⟨some 31, .move (.const (.int .i64 0)), none⟩]) (.block 0 (.loop (.seq (.reg [⟨some 32, .binOp .lss X.I (.tmp 31) (.tmp 30) X.I, none⟩]) (.seq (.cond (.tmp 32) (.skip) (.exit 0)) (.seq (.block 1 (.seq (.reg [mv 33 31, asg 12 33]) (.dreg [mv 34 11, fa 35 X.F 4 6, ld 36 X.I 35, fa 37 X.F 4 7, ld 38 X.Fs 37, mv 39 1, mv 40 2, mv 41 10, mv 42 12, ⟨some 43, .indexAddr X.Ts (.tmp 41) (.tmp 42), none⟩, ld 44 X.T 43, ⟨some 45, .call ⟨.value (.func fVal), #[(.tmp 36), (.tmp 38), (.const (.bool false)), (.tmp 39), (.tmp 40), (.tmp 44)], #[]⟩, none⟩, ⟨some 46, .call ⟨.builtin .append, #[(.tmp 34), (.tmp 45)], #[X.Bs, X.Bs]⟩, none⟩, asg 11 46] [[], [], [1], [], [3], [], [], [], [], [7, 8], [9], [2, 4, 5, 6, 10], [0, 11, 11], [12, 12, 0, 1, 2, 3, 4, 5, 6, 7, 8, 9, 10, 11, 12]]))) (.reg [⟨some 47, .binOp .add X.I (.tmp 31) (.const (.int .i64 1)) X.I, none⟩, mv 31 47]))))))) (.seq (.reg [mv 48 11, asg 8 48]) (.ret)))) Q a w3 := by
  have hst := st_facts hX
  have hU8s := hst.2.2.1.1
  have hlim : lim = 70368744177664 := rfl
  have hmost : most = 32767 := rfl
  refine SC.wp_seq (SC.wp_reg ?_)
  iterate 4 (first | (apply ops_1; (focus (simp (disch := first | omega | (simp only [size_put]; omega)) [qv, qcall, vop, iop, eval_tmp, eval_const, put_none, getT_put, getT_put_ne, hst, g2, g9, g10]; try rfl))) | (apply ops_y; (focus rfl); (focus (first | omega | (simp only [size_put]; omega))); (focus (simp (disch := first | omega | (simp only [size_put]; omega)) [put_none, getT_put, getT_put_ne, hst, g2, g9, g10]; done)); (focus (simp (disch := first | omega | (simp only [size_put]; omega)) [qv, qcall, vop, iop, eval_tmp, eval_const, put_none, getT_put, getT_put_ne, hst, g2, g9, g10]; try rfl))) | (apply ops_n; (focus rfl); (focus (first | omega | (simp only [size_put]; omega))); (focus (first | (left; simp (disch := first | omega | (simp only [size_put]; omega)) [put_none, getT_put, getT_put_ne, hst, g2, g9, g10]; done) | (right; simp (disch := first | omega | (simp only [size_put]; omega)) [put_none, getT_put, getT_put_ne]; done)))))
  refine ops_call S.oC (S.cC w3 flex nl l.length 4 (by omega) (by decide)) (by simp (disch := first | omega | (simp only [size_put]; omega)) [eval_tmp, eval_const, put_none, getT_put, getT_put_ne]) ?_
  rintro e w4 ⟨v0, rfl, r1, r2⟩
  refine ⟨v0, rfl, ?_⟩
  repeat (first | (apply ops_1; (focus (simp (disch := first | omega | (simp only [size_put]; omega)) [qv, qcall, vop, iop, eval_tmp, eval_const, put_none, getT_put, getT_put_ne]; try rfl))) | (apply ops_y; (focus rfl); (focus (first | omega | (simp only [size_put]; omega))); (focus (simp (disch := first | omega | (simp only [size_put]; omega)) [put_none, getT_put, getT_put_ne]; done)); (focus (simp (disch := first | omega | (simp only [size_put]; omega)) [qv, qcall, vop, iop, eval_tmp, eval_const, put_none, getT_put, getT_put_ne]; try rfl))) | (apply ops_n; (focus rfl); (focus (first | omega | (simp only [size_put]; omega))); (focus (first | (left; simp (disch := first | omega | (simp only [size_put]; omega)) [put_none, getT_put, getT_put_ne]; done) | (right; simp (disch := first | omega | (simp only [size_put]; omega)) [put_none, getT_put, getT_put_ne]; done)))))
  refine ops_nil ?_
  simp only [Exit.then]
  refine SC.wp_seq (SC.wp_seq (SC.wp_reg ?_))
  repeat (first | (apply ops_1; (focus (simp (disch := first | omega | (simp only [size_put]; omega)) [qv, qcall, vop, iop, eval_tmp, eval_const, put_none, getT_put, getT_put_ne, hst, g10]; try rfl))) | (apply ops_y; (focus rfl); (focus (first | omega | (simp only [size_put]; omega))); (focus (simp (disch := first | omega | (simp only [size_put]; omega)) [put_none, getT_put, getT_put_ne, hst, g10]; done)); (focus (simp (disch := first | omega | (simp only [size_put]; omega)) [qv, qcall, vop, iop, eval_tmp, eval_const, put_none, getT_put, getT_put_ne, hst, g10]; try rfl))) | (apply ops_n; (focus rfl); (focus (first | omega | (simp only [size_put]; omega))); (focus (first | (left; simp (disch := first | omega | (simp only [size_put]; omega)) [put_none, getT_put, getT_put_ne, hst, g10]; done) | (right; simp (disch := first | omega | (simp only [size_put]; omega)) [put_none, getT_put, getT_put_ne]; done)))))
  refine ops_nil ?_
  simp only [Exit.then]
  have hsz4 : w3.heap.size ≤ w4.heap.size := r2.size
  refine SC.wp_block (SC.wp_loop (fun a4 w5 => ∃ (j : Nat) (v : Value), a4.tmps.size = 76 ∧ a4.defers = a.defers ∧ getT a4 1 = .int .i64 ver ∧ getT a4 2 = .bool flex ∧ getT a4 4 = .pointer (some ⟨w.heap.size, 0, none⟩) ∧ getT a4 10 = .slice lb l.length lc ∧ getT a4 30 = .int .i64 (l.length : Int) ∧ getT a4 31 = .int .i64 (j : Int) ∧ j ≤ l.length ∧
      getT a4 11 = v ∧ Own X.U8 w5 (w.heap.size + 2) v (counted flex nl l.length 4 ++ (l.take j).flatMap (fun x => wTy ver flex of false x)) ∧ Below (w.heap.size + 2) w3 w5)
    (fun a4 _ => match getT a4 31 with | .int _ m => (l.length - m).toNat | _ => 0) ⟨0, v0, by simp [size_put, g], by simp [defers_put], by simp (disch := first | omega | (simp only [size_put]; omega)) [eval_tmp, eval_const, put_none, getT_put, getT_put_ne, g1], by simp (disch := first | omega | (simp only [size_put]; omega)) [eval_tmp, eval_const, put_none, getT_put, getT_put_ne, g2], by simp (disch := first | omega | (simp only [size_put]; omega)) [eval_tmp, eval_const, put_none, getT_put, getT_put_ne, g4], by simp (disch := first | omega | (simp only [size_put]; omega)) [eval_tmp, eval_const, put_none, getT_put, getT_put_ne, g10], by simp (disch := first | omega | (simp only [size_put]; omega)) [eval_tmp, eval_const, put_none, getT_put, getT_put_ne], by simp (disch := first | omega | (simp only [size_put]; omega)) [eval_tmp, eval_const, put_none, getT_put, getT_put_ne], by omega, by simp (disch := first | omega | (simp only [size_put]; omega)) [eval_tmp, eval_const, put_none, getT_put, getT_put_ne], ?_, r2.mono hsz3⟩ ?_)
  · simpa using own_down r1 hsz3
  rintro a4 w5 ⟨j, v, q, qd, q1, q2, q4, q10, q30, q31, hj, q11, ho, hb5⟩
  have hsz5 : w.heap.size + 2 ≤ w5.heap.size := by have := hb5.size; omega
  refine SC.wp_seq (SC.wp_reg ?_)
  repeat (first | (apply ops_1; (focus (simp (disch := first | omega | (simp only [size_put]; omega)) [qv, qcall, vop, iop, eval_tmp, eval_const, put_none, getT_put, getT_put_ne, hst, q30, q31]; try rfl))) | (apply ops_y; (focus rfl); (focus (first | omega | (simp only [size_put]; omega))); (focus (simp (disch := first | omega | (simp only [size_put]; omega)) [put_none, getT_put, getT_put_ne, hst, q30, q31]; done)); (focus (simp (disch := first | omega | (simp only [size_put]; omega)) [qv, qcall, vop, iop, eval_tmp, eval_const, put_none, getT_put, getT_put_ne, hst, q30, q31]; try rfl))) | (apply ops_n; (focus rfl); (focus (first | omega | (simp only [size_put]; omega))); (focus (first | (left; simp (disch := first | omega | (simp only [size_put]; omega)) [put_none, getT_put, getT_put_ne, hst, q30, q31]; done) | (right; simp (disch := first | omega | (simp only [size_put]; omega)) [put_none, getT_put, getT_put_ne]; done)))))
  refine ops_nil ?_
  simp only [Exit.then]
  refine SC.wp_seq (SC.wp_cond (t := decide ((j : Int) < (l.length : Int))) (by simp (disch := first | omega | (simp only [size_put]; omega)) [eval_tmp, eval_const, put_none, getT_put, getT_put_ne]) ?_)
  cases e1 : decide ((j : Int) < (l.length : Int))
  · have hje : j = l.length := by simp at e1; omega
    subst hje
    rw [if_neg (by simp)]
    refine SC.wp_exit ?_
    simp only [Exit.then, Exit.inBlock, if_true]
    refine SC.wp_seq (SC.wp_reg ?_)
    repeat (first | (apply ops_1; (focus (simp (disch := first | omega | (simp only [size_put]; omega)) [qv, qcall, vop, iop, eval_tmp, eval_const, put_none, getT_put, getT_put_ne, q11]; try rfl))) | (apply ops_y; (focus rfl); (focus (first | omega | (simp only [size_put]; omega))); (focus (simp (disch := first | omega | (simp only [size_put]; omega)) [put_none, getT_put, getT_put_ne, q11]; done)); (focus (simp (disch := first | omega | (simp only [size_put]; omega)) [qv, qcall, vop, iop, eval_tmp, eval_const, put_none, getT_put, getT_put_ne, q11]; try rfl))) | (apply ops_n; (focus rfl); (focus (first | omega | (simp only [size_put]; omega))); (focus (first | (left; simp (disch := first | omega | (simp only [size_put]; omega)) [put_none, getT_put, getT_put_ne, q11]; done) | (right; simp (disch := first | omega | (simp only [size_put]; omega)) [put_none, getT_put, getT_put_ne]; done)))))
    refine ops_nil (SC.wp_ret ?_)
    refine hQ _ _ v (by simp [defers_put, qd]) (by simp (disch := first | omega | (simp only [size_put]; omega)) [eval_tmp, eval_const, put_none, getT_put, getT_put_ne]) ?_ (hbw.trans (hb5.mono (by omega)))
    rw [List.take_length] at ho
    exact own_down ho (by omega)
  · have hjl : j < l.length := by simp at e1; omega
    rw [if_pos rfl]
    refine SC.wp_skip ?_
    simp only [Exit.then]
    refine SC.wp_seq (SC.wp_block (SC.wp_seq (SC.wp_reg ?_)))
    repeat (first | (apply ops_1; (focus (simp (disch := first | omega | (simp only [size_put]; omega)) [qv, qcall, vop, iop, eval_tmp, eval_const, put_none, getT_put, getT_put_ne, q31]; try rfl))) | (apply ops_y; (focus rfl); (focus (first | omega | (simp only [size_put]; omega))); (focus (simp (disch := first | omega | (simp only [size_put]; omega)) [put_none, getT_put, getT_put_ne, q31]; done)); (focus (simp (disch := first | omega | (simp only [size_put]; omega)) [qv, qcall, vop, iop, eval_tmp, eval_const, put_none, getT_put, getT_put_ne, q31]; try rfl))) | (apply ops_n; (focus rfl); (focus (first | omega | (simp only [size_put]; omega))); (focus (first | (left; simp (disch := first | omega | (simp only [size_put]; omega)) [put_none, getT_put, getT_put_ne, q31]; done) | (right; simp (disch := first | omega | (simp only [size_put]; omega)) [put_none, getT_put, getT_put_ne]; done)))))
    refine ops_nil ?_
    simp only [Exit.then]
    have hne : l ≠ [] := by intro e; subst e; simp at hjl
    obtain ⟨hlb, hbF⟩ := hll hne
    subst hlb
    have hri := hrr j hjl
    have hb5' : Below w.heap.size w w5 := hbw.trans (hb5.mono (by omega))
    rw [← rangeV_mono (w := w5.drew) (hb5'.block b hbF)] at hri
    have hti := htt j _ (List.getElem?_eq_getElem hjl)
    have hcd : ∀ i, w5.drew.cell? ⟨w.heap.size, i, none⟩ = F0[i]? := fun i =>
      (World.cell?_of_block (w := w3) (w' := w5.drew) (a := ⟨w.heap.size, i, none⟩) (hb5.block w.heap.size (by omega))).trans (hc3 i)
    have hcd6 := (hcd 6).trans hF6
    have hcd7 := (hcd 7).trans hF7
    have hlt : w.heap.size < w.heap.size + 2 := by omega
    have hlb2 : b < w.heap.size + 2 := by omega
    have ej : (0 : Int) ≤ (j : Int) ∧ (j : Int) < (l.length : Int) := by omega
    obtain ⟨tf1, tf2⟩ := take_flat l (fun x => wTy ver flex of false x) j hjl
    rw [List.length_append] at hl
    refine SC.wp_dreg hm (Below (w.heap.size + 2) w5.drew) [(0, true), (1, true), (2, true), (3, true), (4, true), (5, true), (6, true), (7, true), (8, true), (9, true), (10, true), (11, false), (12, false), (13, true)] (by rfl) (by rfl) (by decide) (Below.refl _ _) ?_
    iterate 11 (first | (apply dr_1; (focus rfl); (focus (simp (disch := first | omega | (simp only [size_put]; omega)) [qv, qcall, vop, iop, eval_tmp, eval_const, put_none, getT_put, getT_put_ne, hst, q1, q2, q4, q10, q11, hlt, hlb2, hcd6, hcd7, hri, ej, hjl]; try rfl))) | (apply dr_y; (focus rfl); (focus rfl); (focus (first | omega | (simp only [size_put]; omega))); (focus (simp (disch := first | omega | (simp only [size_put]; omega)) [put_none, getT_put, getT_put_ne, hst, q1, q2, q4, q10, q11, hlt, hlb2, hcd6, hcd7, hri, ej, hjl]; done)); (focus (simp (disch := first | omega | (simp only [size_put]; omega)) [qv, qcall, vop, iop, eval_tmp, eval_const, put_none, getT_put, getT_put_ne, hst, q1, q2, q4, q10, q11, hlt, hlb2, hcd6, hcd7, hri, ej, hjl]; try rfl))) | (apply dr_n; (focus rfl); (focus rfl); (focus (first | omega | (simp only [size_put]; omega))); (focus (first | (left; simp (disch := first | omega | (simp only [size_put]; omega)) [put_none, getT_put, getT_put_ne, hst, q1, q2, q4, q10, q11, hlt, hlb2, hcd6, hcd7, hri, ej, hjl]; done) | (right; simp (disch := first | omega | (simp only [size_put]; omega)) [put_none, getT_put, getT_put_ne]; done)))))
    refine dreg_call rfl oV (hV w5.drew sub false ver flex l[j] _ (SubV.mono (w := w5.drew) (F' := fun x => x < w5.drew.heap.size) (fun k hk => by have : k < w.heap.size := hk; show k < w5.heap.size; omega) (fun k hk => hb5'.block k hk) of sub hsub) (TV.down hb5'.drew (by show w.heap.size ≤ w5.heap.size; omega) hti) (by omega)) (by simp (disch := first | omega | (simp only [size_put]; omega)) [eval_tmp, eval_const, put_none, getT_put, getT_put_ne]) ?_
    rintro e w6 ⟨v2, rfl, p3, p4⟩
    have p4 : Below w5.heap.size w5.drew w6 := p4
    refine ⟨v2, rfl, p4.mono hsz5, ?_⟩
    have hsz6 : w5.heap.size ≤ w6.heap.size := p4.size
    have ho1 : Own X.U8 w6 (w.heap.size + 2) v (counted flex nl l.length 4 ++ (l.take j).flatMap (fun x => wTy ver flex of false x)) := own_keep (w := w5.drew) ho p4
    refine dreg_n rfl rfl (opw_appendU8 (B := w.heap.size + 2) (dv := v) (xv := v2) (xs := counted flex nl l.length 4 ++ (l.take j).flatMap (fun x => wTy ver flex of false x)) (bs := wTy ver flex of false l[j]) hU8s (by simp (disch := first | omega | (simp only [size_put]; omega)) [eval_tmp, eval_const, put_none, getT_put, getT_put_ne]) (by simp (disch := first | omega | (simp only [size_put]; omega)) [eval_tmp, eval_const, put_none, getT_put, getT_put_ne]) rfl ho1 (by omega) (src_own hU8s p3) (by rw [List.length_append]; omega) ?_)
    intro v3 w7 p5 p6 p7 _
    refine ⟨(p4.mono hsz5).trans p6, ?_⟩
    repeat (first | (apply dr_1; (focus rfl); (focus (simp (disch := first | omega | (simp only [size_put]; omega)) [qv, qcall, vop, iop, eval_tmp, eval_const, put_none, getT_put, getT_put_ne]; try rfl))) | (apply dr_y; (focus rfl); (focus rfl); (focus (first | omega | (simp only [size_put]; omega))); (focus (simp (disch := first | omega | (simp only [size_put]; omega)) [put_none, getT_put, getT_put_ne]; done)); (focus (simp (disch := first | omega | (simp only [size_put]; omega)) [qv, qcall, vop, iop, eval_tmp, eval_const, put_none, getT_put, getT_put_ne]; try rfl))) | (apply dr_n; (focus rfl); (focus rfl); (focus (first | omega | (simp only [size_put]; omega))); (focus (first | (left; simp (disch := first | omega | (simp only [size_put]; omega)) [put_none, getT_put, getT_put_ne]; done) | (right; simp (disch := first | omega | (simp only [size_put]; omega)) [put_none, getT_put, getT_put_ne]; done)))))
    refine dreg_nil ?_
    simp only [Exit.inBlock, Exit.then]
    have ew : ((j : Int) + 1) = ((j + 1 : Nat) : Int) := by omega
    have eww : IntKind.i64.wrap ((j : Int) + 1) = ((j + 1 : Nat) : Int) := by rw [wrap_i64']; split <;> omega
    refine SC.wp_reg ?_
    repeat (first | (apply ops_1; (focus (simp (disch := first | omega | (simp only [size_put]; omega)) [qv, qcall, vop, iop, eval_tmp, eval_const, put_none, getT_put, getT_put_ne, q31, eww]; try rfl))) | (apply ops_y; (focus rfl); (focus (first | omega | (simp only [size_put]; omega))); (focus (simp (disch := first | omega | (simp only [size_put]; omega)) [put_none, getT_put, getT_put_ne, q31, eww]; done)); (focus (simp (disch := first | omega | (simp only [size_put]; omega)) [qv, qcall, vop, iop, eval_tmp, eval_const, put_none, getT_put, getT_put_ne, q31, eww]; try rfl))) | (apply ops_n; (focus rfl); (focus (first | omega | (simp only [size_put]; omega))); (focus (first | (left; simp (disch := first | omega | (simp only [size_put]; omega)) [put_none, getT_put, getT_put_ne, q31, eww]; done) | (right; simp (disch := first | omega | (simp only [size_put]; omega)) [put_none, getT_put, getT_put_ne]; done)))))
    refine ops_nil ?_
    refine ⟨⟨j + 1, v3, by simp [size_put, q], by simp [defers_put, qd], by simp (disch := first | omega | (simp only [size_put]; omega)) [eval_tmp, eval_const, put_none, getT_put, getT_put_ne, q1], by simp (disch := first | omega | (simp only [size_put]; omega)) [eval_tmp, eval_const, put_none, getT_put, getT_put_ne, q2], by simp (disch := first | omega | (simp only [size_put]; omega)) [eval_tmp, eval_const, put_none, getT_put, getT_put_ne, q4], by simp (disch := first | omega | (simp only [size_put]; omega)) [eval_tmp, eval_const, put_none, getT_put, getT_put_ne, q10], by simp (disch := first | omega | (simp only [size_put]; omega)) [eval_tmp, eval_const, put_none, getT_put, getT_put_ne, q30], by simp (disch := first | omega | (simp only [size_put]; omega)) [eval_tmp, eval_const, put_none, getT_put, getT_put_ne], by omega, by simp (disch := first | omega | (simp only [size_put]; omega)) [eval_tmp, eval_const, put_none, getT_put, getT_put_ne], ?_, hb5.drew.trans ((p4.mono hsz5).trans p6)⟩, ?_⟩
    · rw [tf1, ← List.append_assoc]; exact p5
    · simp (disch := first | omega | (simp only [size_put]; omega)) [eval_tmp, eval_const, put_none, getT_put, getT_put_ne, q31]; omega

theorem field_ok (hX : stOK P X = true) (S : SmallC P X fW fTh fC fWi fF fU fHas fNull fAt G) (hm : P.follows .mixedOrders = true) (oP : FnOK P fPart) (oV : FnOK P fVal) (hV : ∀ ty, isList ty = false → SubC (PartC G P X fPart) ty → ValueC G P X fVal ty)
    (hf : P.funcs[f]? = some fn) (hb : fn.body.map strip = some (sc_sfield X.F X.T X.I X.Ts X.Fs X.Bs fNull fTh fC fVal fF fPart)) (hn : fn.ntmps = 76) (hr : fn.results = #[.tmp 8])
    (w : World) (h : Hd) (ty : Ty) (of_ : Int) (sub : Value) (ver : Int) (flex : Bool) (t : Tree) (tv : Value) (hof : ofOK of_ ty) (hsub : SubV w (· < w.heap.size) ty sub) (hs1c : sub.oneCell' = true) (cP : SubC (PartC G P X fPart) ty)
    (ht : TV G w (· < w.heap.size) t tv) (hl : (wField ver flex h ty t).length ≤ lim) :
    Calls P f #[fldV (kindOf ty) h.from_ h.to h.null (-1) h.dflt of_ sub, .int .i64 ver, .bool flex, tv] w (RetOwn X.U8 w (wField ver flex h ty t)) := by
  have hst := st_facts hX
  have hU8s := hst.2.2.1.1
  have hlim : lim = 70368744177664 := rfl
  refine fn_calls hf hb hn (by simp) fun a0 hs hd ha => ?_
  have h0 := ha 0 _ rfl
  have h1 := ha 1 _ rfl
  have h2 := ha 2 _ rfl
  have h3 := ha 3 _ rfl
  simp only [List.getElem_toArray, List.getElem_cons_zero, List.getElem_cons_succ] at h0 h1 h2 h3
  have ht0 := ht
  cases ht with
  | mk n s tnull l u sb lb ub sc lc uc b o cs hs1 hsc hlc huc hll hrr htt hG hu =>
  refine SC.wp_seq (SC.wp_reg (ops_box (B := w.heap.size) (w0 := w) (by rw [eval_tmp, h0]; rfl) (Nat.le_refl _) (Below.refl _ _) fun w1 q1 q2 q3 hc q5 => ?_))
  refine ops_box (B := w.heap.size) (w0 := w) (cs := #[.int .i64 n, .slice sb s.length sc, .bool tnull, .slice lb l.length lc, .slice ub u.length uc]) (by simp (disch := first | omega | (simp only [size_put]; omega)) [eval_tmp, eval_const, put_none, getT_put, getT_put_ne, h3, treV]) (by omega) q2 fun w2 r1 r2 r3 hd2 r5 => ?_
  repeat (first | (apply ops_1; (focus (simp (disch := first | omega | (simp only [size_put]; omega)) [qv, qcall, vop, iop, eval_tmp, eval_const, put_none, getT_put, getT_put_ne]; try rfl))) | (apply ops_y; (focus rfl); (focus (first | omega | (simp only [size_put]; omega))); (focus (simp (disch := first | omega | (simp only [size_put]; omega)) [put_none, getT_put, getT_put_ne]; done)); (focus (simp (disch := first | omega | (simp only [size_put]; omega)) [qv, qcall, vop, iop, eval_tmp, eval_const, put_none, getT_put, getT_put_ne]; try rfl))) | (apply ops_n; (focus rfl); (focus (first | omega | (simp only [size_put]; omega))); (focus (first | (left; simp (disch := first | omega | (simp only [size_put]; omega)) [put_none, getT_put, getT_put_ne]; done) | (right; simp (disch := first | omega | (simp only [size_put]; omega)) [put_none, getT_put, getT_put_ne]; done)))))
  refine ops_nil ?_
  have hc2 : ∀ j, w2.cell? ⟨w.heap.size, j, none⟩ = #[Value.int .i64 (kindOf ty), .int .i64 h.from_, .int .i64 h.to, .int .i64 h.null, .int .i64 (-1), .int .i64 h.dflt, .int .i64 of_, sub][j]? := fun j => by rw [r1.cell (by show w.heap.size < w1.heap.size; omega)]; exact hc j
  have hsz2 : w2.heap.size = w.heap.size + 2 := by omega
  rw [q3] at hd2 ⊢
  clear hc q1 q2 q3 q5 r1 r3 r5 w1
  have hF8 : rangeV w2 w.heap.size 0 8 = some [.int .i64 (kindOf ty), .int .i64 h.from_, .int .i64 h.to, .int .i64 h.null, .int .i64 (-1), .int .i64 h.dflt, .int .i64 of_, sub] := by simp [rangeV, hc2]
  have hT5 : rangeV w2 (w.heap.size + 1) 0 5 = some [.int .i64 n, .slice sb s.length sc, .bool tnull, .slice lb l.length lc, .slice ub u.length uc] := by simp [rangeV, hd2]
  refine SC.wp_seq (SC.wp_reg ?_)
  iterate 3 (first | (apply ops_1; (focus (simp (disch := first | omega | (simp only [size_put]; omega)) [qv, qcall, vop, iop, eval_tmp, eval_const, put_none, getT_put, getT_put_ne, hst, hF8, hT5, h1]; try rfl))) | (apply ops_y; (focus rfl); (focus (first | omega | (simp only [size_put]; omega))); (focus (simp (disch := first | omega | (simp only [size_put]; omega)) [put_none, getT_put, getT_put_ne, hst, hF8, hT5, h1]; done)); (focus (simp (disch := first | omega | (simp only [size_put]; omega)) [qv, qcall, vop, iop, eval_tmp, eval_const, put_none, getT_put, getT_put_ne, hst, hF8, hT5, h1]; try rfl))) | (apply ops_n; (focus rfl); (focus (first | omega | (simp only [size_put]; omega))); (focus (first | (left; simp (disch := first | omega | (simp only [size_put]; omega)) [put_none, getT_put, getT_put_ne, hst, hF8, hT5, h1]; done) | (right; simp (disch := first | omega | (simp only [size_put]; omega)) [put_none, getT_put, getT_put_ne]; done)))))
  refine ops_call S.oN (S.cN w2 (kindOf ty) h.from_ h.to h.null (-1) h.dflt of_ sub ver n (.slice sb s.length sc) (.slice lb l.length lc) (.slice ub u.length uc) tnull) (by simp (disch := first | omega | (simp only [size_put]; omega)) [eval_tmp, eval_const, put_none, getT_put, getT_put_ne, fldV, treV]) ?_
  rintro e w3 ⟨rfl, r1⟩
  refine ⟨_, rfl, ?_⟩
  have hnull : h.isNull ver (.mk n s tnull l u) = (tnull && (decide (0 ≤ h.null) && decide (h.null ≤ ver))) := rfl
  rw [← hnull]
  generalize hnl : h.isNull ver (.mk n s tnull l u) = nl at *
  have hc3 : ∀ j, w3.cell? ⟨w.heap.size, j, none⟩ = #[Value.int .i64 (kindOf ty), .int .i64 h.from_, .int .i64 h.to, .int .i64 h.null, .int .i64 (-1), .int .i64 h.dflt, .int .i64 of_, sub][j]? := fun j => by rw [r1.cell (by show w.heap.size < w2.heap.size; omega)]; exact hc2 j
  have hd3 : ∀ j, w3.cell? ⟨w.heap.size + 1, j, none⟩ = #[Value.int .i64 n, .slice sb s.length sc, .bool tnull, .slice lb l.length lc, .slice ub u.length uc][j]? := fun j => by rw [r1.cell (by show w.heap.size + 1 < w2.heap.size; omega)]; exact hd2 j
  have hbw : Below w.heap.size w w3 := r2.trans (r1.mono (by omega))
  have hsz3 : w.heap.size + 2 ≤ w3.heap.size := by have := r1.size; omega
  clear hc2 hd2 hF8 hT5 r1 r2 hsz2
  have hT5 : rangeV w3 (w.heap.size + 1) 0 5 = some [.int .i64 n, .slice sb s.length sc, .bool tnull, .slice lb l.length lc, .slice ub u.length uc] := by simp [rangeV, hd3]
  repeat (first | (apply ops_1; (focus (simp (disch := first | omega | (simp only [size_put]; omega)) [qv, qcall, vop, iop, eval_tmp, eval_const, put_none, getT_put, getT_put_ne]; try rfl))) | (apply ops_y; (focus rfl); (focus (first | omega | (simp only [size_put]; omega))); (focus (simp (disch := first | omega | (simp only [size_put]; omega)) [put_none, getT_put, getT_put_ne]; done)); (focus (simp (disch := first | omega | (simp only [size_put]; omega)) [qv, qcall, vop, iop, eval_tmp, eval_const, put_none, getT_put, getT_put_ne]; try rfl))) | (apply ops_n; (focus rfl); (focus (first | omega | (simp only [size_put]; omega))); (focus (first | (left; simp (disch := first | omega | (simp only [size_put]; omega)) [put_none, getT_put, getT_put_ne]; done) | (right; simp (disch := first | omega | (simp only [size_put]; omega)) [put_none, getT_put, getT_put_ne]; done)))))
  refine ops_nil ?_
  simp only [Exit.then]
  refine gen_act (fun a => a.tmps.size = 76 ∧ a.defers = [] ∧ getT a 1 = .int .i64 ver ∧ getT a 2 = .bool flex ∧ getT a 4 = .pointer (some ⟨w.heap.size, 0, none⟩) ∧ getT a 7 = .pointer (some ⟨w.heap.size + 1, 0, none⟩) ∧ getT a 9 = .bool nl)
    ⟨by simp [size_put, hs], by simp [defers_put, hd], by simp (disch := first | omega | (simp only [size_put]; omega)) [eval_tmp, eval_const, put_none, getT_put, getT_put_ne, h1], by simp (disch := first | omega | (simp only [size_put]; omega)) [eval_tmp, eval_const, put_none, getT_put, getT_put_ne, h2], by simp (disch := first | omega | (simp only [size_put]; omega)) [eval_tmp, eval_const, put_none, getT_put, getT_put_ne], by simp (disch := first | omega | (simp only [size_put]; omega)) [eval_tmp, eval_const, put_none, getT_put, getT_put_ne], by simp (disch := first | omega | (simp only [size_put]; omega)) [eval_tmp, eval_const, put_none, getT_put, getT_put_ne]⟩ ?_
  rintro a ⟨g, gd, g1, g2, g4, g7, g9⟩
  clear h0 h1 h2 h3 ha hs hd
  have fin : ∀ (out : Bytes) (a : Act) (w' : World) (v : Value), a.defers = [] → getT a 8 = v → Own X.U8 w' w.heap.size v out → Below w.heap.size w w' → out = wField ver flex h ty (.mk n s tnull l u) → bodyPost P fn (RetOwn X.U8 w (wField ver flex h ty (.mk n s tnull l u))) .ret a w' := by
    intro out a w' v q2 q3 q4 q5 q6
    subst q6
    exact ret_tmp hr q2 ⟨v, by rw [q3], q4, q5⟩
  -- what is no list
  have plain : isList ty = false → wField ver flex h ty (.mk n s tnull l u) = wTy ver flex ty nl (.mk n s tnull l u) → ∀ (a : Act), a.tmps.size = 76 → a.defers = [] → getT a 1 = .int .i64 ver → getT a 2 = .bool flex → getT a 4 = .pointer (some ⟨w.heap.size, 0, none⟩) → getT a 7 = .pointer (some ⟨w.heap.size + 1, 0, none⟩) → getT a 9 = .bool nl →
      SC.wp P (.seq (.reg [fa 67 X.F 4 0, ld 68 X.I 67, fa 69 X.F 4 7, ld 70 X.Fs 69, mv 71 9, mv 72 1, mv 73 2, ld 74 X.T 7, cal 75 fVal [68, 70, 71, 72, 73, 74], asg 8 75]) .ret) (bodyPost P fn (RetOwn X.U8 w (wField ver flex h ty (.mk n s tnull l u)))) a w3 := by
    intro hty heq a g gd g1 g2 g4 g7 g9
    refine SC.wp_seq (SC.wp_reg ?_)
    iterate 8 (first | (apply ops_1; (focus (simp (disch := first | omega | (simp only [size_put]; omega)) [qv, qcall, vop, iop, eval_tmp, eval_const, put_none, getT_put, getT_put_ne, hst, hc3, hd3, hT5, g1, g2, g4, g7, g9]; try rfl))) | (apply ops_y; (focus rfl); (focus (first | omega | (simp only [size_put]; omega))); (focus (simp (disch := first | omega | (simp only [size_put]; omega)) [put_none, getT_put, getT_put_ne, hst, hc3, hd3, hT5, g1, g2, g4, g7, g9]; done)); (focus (simp (disch := first | omega | (simp only [size_put]; omega)) [qv, qcall, vop, iop, eval_tmp, eval_const, put_none, getT_put, getT_put_ne, hst, hc3, hd3, hT5, g1, g2, g4, g7, g9]; try rfl))) | (apply ops_n; (focus rfl); (focus (first | omega | (simp only [size_put]; omega))); (focus (first | (left; simp (disch := first | omega | (simp only [size_put]; omega)) [put_none, getT_put, getT_put_ne, hst, hc3, hd3, hT5, g1, g2, g4, g7, g9]; done) | (right; simp (disch := first | omega | (simp only [size_put]; omega)) [put_none, getT_put, getT_put_ne]; done)))))
    refine ops_call oV (hV ty hty cP w3 sub nl ver flex _ _ (SubV.mono (fun k hk => by have : k < w.heap.size := hk; show k < w3.heap.size; omega) (fun k hk => hbw.block k hk) ty sub hsub) (TV.down hbw (by omega) ht0) (by rw [← heq]; exact hl)) (by simp (disch := first | omega | (simp only [size_put]; omega)) [eval_tmp, eval_const, put_none, getT_put, getT_put_ne, fldV, treV]) ?_
    rintro e w4 ⟨v, rfl, r1, r2⟩
    refine ⟨v, rfl, ?_⟩
    repeat (first | (apply ops_1; (focus (simp (disch := first | omega | (simp only [size_put]; omega)) [qv, qcall, vop, iop, eval_tmp, eval_const, put_none, getT_put, getT_put_ne]; try rfl))) | (apply ops_y; (focus rfl); (focus (first | omega | (simp only [size_put]; omega))); (focus (simp (disch := first | omega | (simp only [size_put]; omega)) [put_none, getT_put, getT_put_ne]; done)); (focus (simp (disch := first | omega | (simp only [size_put]; omega)) [qv, qcall, vop, iop, eval_tmp, eval_const, put_none, getT_put, getT_put_ne]; try rfl))) | (apply ops_n; (focus rfl); (focus (first | omega | (simp only [size_put]; omega))); (focus (first | (left; simp (disch := first | omega | (simp only [size_put]; omega)) [put_none, getT_put, getT_put_ne]; done) | (right; simp (disch := first | omega | (simp only [size_put]; omega)) [put_none, getT_put, getT_put_ne]; done)))))
    refine ops_nil (SC.wp_ret ?_)
    try simp only [Exit.then]
    exact fin _ _ _ v (by simp [defers_put, gd]) (by simp (disch := first | omega | (simp only [size_put]; omega)) [eval_tmp, eval_const, put_none, getT_put, getT_put_ne]) (own_down r1 (by omega)) (hbw.trans (r2.mono (by omega))) heq.symm
  have htv3 : TV G w3 (· < w3.heap.size) (.mk n s tnull l u) (treV n (.slice sb s.length sc) tnull (.slice lb l.length lc) (.slice ub u.length uc)) := TV.down hbw (by omega) ht0
  have hf1 : fixed (-1) 1 = [255] := by decide
  have hf2 : fixed 1 1 = [1] := by decide
  cases ty with
  | prim k =>
    have e11 : (kindOf (.prim k) == 11) = false := by cases k <;> rfl
    have e10 : (kindOf (.prim k) == 10) = false := by cases k <;> rfl
    refine SC.wp_seq (SC.wp_seq (SC.wp_reg ?_))
    repeat (first | (apply ops_1; (focus (simp (disch := first | omega | (simp only [size_put]; omega)) [qv, qcall, vop, iop, eval_tmp, eval_const, put_none, getT_put, getT_put_ne, hst, hc3, g4, e11]; try rfl))) | (apply ops_y; (focus rfl); (focus (first | omega | (simp only [size_put]; omega))); (focus (simp (disch := first | omega | (simp only [size_put]; omega)) [put_none, getT_put, getT_put_ne, hst, hc3, g4, e11]; done)); (focus (simp (disch := first | omega | (simp only [size_put]; omega)) [qv, qcall, vop, iop, eval_tmp, eval_const, put_none, getT_put, getT_put_ne, hst, hc3, g4, e11]; try rfl))) | (apply ops_n; (focus rfl); (focus (first | omega | (simp only [size_put]; omega))); (focus (first | (left; simp (disch := first | omega | (simp only [size_put]; omega)) [put_none, getT_put, getT_put_ne, hst, hc3, g4, e11]; done) | (right; simp (disch := first | omega | (simp only [size_put]; omega)) [put_none, getT_put, getT_put_ne]; done)))))
    refine ops_nil (SC.wp_cond (t := false) (by simp (disch := first | omega | (simp only [size_put]; omega)) [eval_tmp, eval_const, put_none, getT_put, getT_put_ne]) ?_)
    rw [if_neg (by simp)]
    refine SC.wp_skip ?_
    simp only [Exit.then]
    refine SC.wp_seq (SC.wp_seq (SC.wp_reg ?_))
    repeat (first | (apply ops_1; (focus (simp (disch := first | omega | (simp only [size_put]; omega)) [qv, qcall, vop, iop, eval_tmp, eval_const, put_none, getT_put, getT_put_ne, hst, hc3, g4, e10]; try rfl))) | (apply ops_y; (focus rfl); (focus (first | omega | (simp only [size_put]; omega))); (focus (simp (disch := first | omega | (simp only [size_put]; omega)) [put_none, getT_put, getT_put_ne, hst, hc3, g4, e10]; done)); (focus (simp (disch := first | omega | (simp only [size_put]; omega)) [qv, qcall, vop, iop, eval_tmp, eval_const, put_none, getT_put, getT_put_ne, hst, hc3, g4, e10]; try rfl))) | (apply ops_n; (focus rfl); (focus (first | omega | (simp only [size_put]; omega))); (focus (first | (left; simp (disch := first | omega | (simp only [size_put]; omega)) [put_none, getT_put, getT_put_ne, hst, hc3, g4, e10]; done) | (right; simp (disch := first | omega | (simp only [size_put]; omega)) [put_none, getT_put, getT_put_ne]; done)))))
    refine ops_nil (SC.wp_cond (t := false) (by simp (disch := first | omega | (simp only [size_put]; omega)) [eval_tmp, eval_const, put_none, getT_put, getT_put_ne]) ?_)
    rw [if_neg (by simp)]
    refine SC.wp_skip ?_
    simp only [Exit.then]
    refine plain rfl (by rw [← hnl]; rfl) _ (by simp [size_put, g]) (by simp [defers_put, gd]) ?_ ?_ ?_ ?_ ?_
    · simp (disch := first | omega | (simp only [size_put]; omega)) [eval_tmp, eval_const, put_none, getT_put, getT_put_ne, g1]
    · simp (disch := first | omega | (simp only [size_put]; omega)) [eval_tmp, eval_const, put_none, getT_put, getT_put_ne, g2]
    · simp (disch := first | omega | (simp only [size_put]; omega)) [eval_tmp, eval_const, put_none, getT_put, getT_put_ne, g4]
    · simp (disch := first | omega | (simp only [size_put]; omega)) [eval_tmp, eval_const, put_none, getT_put, getT_put_ne, g7]
    · simp (disch := first | omega | (simp only [size_put]; omega)) [eval_tmp, eval_const, put_none, getT_put, getT_put_ne, g9]
  | struct typ size dflt tags fs =>
    have e11 : (kindOf (.struct typ size dflt tags fs) == 11) = false := rfl
    have e10 : (kindOf (.struct typ size dflt tags fs) == 10) = true := rfl
    refine SC.wp_seq (SC.wp_seq (SC.wp_reg ?_))
    repeat (first | (apply ops_1; (focus (simp (disch := first | omega | (simp only [size_put]; omega)) [qv, qcall, vop, iop, eval_tmp, eval_const, put_none, getT_put, getT_put_ne, hst, hc3, g4, e11]; try rfl))) | (apply ops_y; (focus rfl); (focus (first | omega | (simp only [size_put]; omega))); (focus (simp (disch := first | omega | (simp only [size_put]; omega)) [put_none, getT_put, getT_put_ne, hst, hc3, g4, e11]; done)); (focus (simp (disch := first | omega | (simp only [size_put]; omega)) [qv, qcall, vop, iop, eval_tmp, eval_const, put_none, getT_put, getT_put_ne, hst, hc3, g4, e11]; try rfl))) | (apply ops_n; (focus rfl); (focus (first | omega | (simp only [size_put]; omega))); (focus (first | (left; simp (disch := first | omega | (simp only [size_put]; omega)) [put_none, getT_put, getT_put_ne, hst, hc3, g4, e11]; done) | (right; simp (disch := first | omega | (simp only [size_put]; omega)) [put_none, getT_put, getT_put_ne]; done)))))
    refine ops_nil (SC.wp_cond (t := false) (by simp (disch := first | omega | (simp only [size_put]; omega)) [eval_tmp, eval_const, put_none, getT_put, getT_put_ne]) ?_)
    rw [if_neg (by simp)]
    refine SC.wp_skip ?_
    simp only [Exit.then]
    refine SC.wp_seq (SC.wp_seq (SC.wp_reg ?_))
    cases enn : decide (0 ≤ h.null)
    · repeat (first | (apply ops_1; (focus (simp (disch := first | omega | (simp only [size_put]; omega)) [qv, qcall, vop, iop, eval_tmp, eval_const, put_none, getT_put, getT_put_ne, hst, hc3, g4, e10, enn]; try rfl))) | (apply ops_y; (focus rfl); (focus (first | omega | (simp only [size_put]; omega))); (focus (simp (disch := first | omega | (simp only [size_put]; omega)) [put_none, getT_put, getT_put_ne, hst, hc3, g4, e10, enn]; done)); (focus (simp (disch := first | omega | (simp only [size_put]; omega)) [qv, qcall, vop, iop, eval_tmp, eval_const, put_none, getT_put, getT_put_ne, hst, hc3, g4, e10, enn]; try rfl))) | (apply ops_n; (focus rfl); (focus (first | omega | (simp only [size_put]; omega))); (focus (first | (left; simp (disch := first | omega | (simp only [size_put]; omega)) [put_none, getT_put, getT_put_ne, hst, hc3, g4, e10, enn]; done) | (right; simp (disch := first | omega | (simp only [size_put]; omega)) [put_none, getT_put, getT_put_ne]; done)))))
      refine ops_nil (SC.wp_cond (t := false) (by simp (disch := first | omega | (simp only [size_put]; omega)) [eval_tmp, eval_const, put_none, getT_put, getT_put_ne]) ?_)
      rw [if_neg (by simp)]
      refine SC.wp_skip ?_
      simp only [Exit.then]
      refine plain rfl (by have : ¬ 0 ≤ h.null := by simpa using enn
                           simp [wField, this, wTy]) _ (by simp [size_put, g]) (by simp [defers_put, gd]) ?_ ?_ ?_ ?_ ?_
      · simp (disch := first | omega | (simp only [size_put]; omega)) [eval_tmp, eval_const, put_none, getT_put, getT_put_ne, g1]
      · simp (disch := first | omega | (simp only [size_put]; omega)) [eval_tmp, eval_const, put_none, getT_put, getT_put_ne, g2]
      · simp (disch := first | omega | (simp only [size_put]; omega)) [eval_tmp, eval_const, put_none, getT_put, getT_put_ne, g4]
      · simp (disch := first | omega | (simp only [size_put]; omega)) [eval_tmp, eval_const, put_none, getT_put, getT_put_ne, g7]
      · simp (disch := first | omega | (simp only [size_put]; omega)) [eval_tmp, eval_const, put_none, getT_put, getT_put_ne, g9]
    · have h0n : 0 ≤ h.null := by simpa using enn
      repeat (first | (apply ops_1; (focus (simp (disch := first | omega | (simp only [size_put]; omega)) [qv, qcall, vop, iop, eval_tmp, eval_const, put_none, getT_put, getT_put_ne, hst, hc3, g4, e10, enn]; try rfl))) | (apply ops_y; (focus rfl); (focus (first | omega | (simp only [size_put]; omega))); (focus (simp (disch := first | omega | (simp only [size_put]; omega)) [put_none, getT_put, getT_put_ne, hst, hc3, g4, e10, enn]; done)); (focus (simp (disch := first | omega | (simp only [size_put]; omega)) [qv, qcall, vop, iop, eval_tmp, eval_const, put_none, getT_put, getT_put_ne, hst, hc3, g4, e10, enn]; try rfl))) | (apply ops_n; (focus rfl); (focus (first | omega | (simp only [size_put]; omega))); (focus (first | (left; simp (disch := first | omega | (simp only [size_put]; omega)) [put_none, getT_put, getT_put_ne, hst, hc3, g4, e10, enn]; done) | (right; simp (disch := first | omega | (simp only [size_put]; omega)) [put_none, getT_put, getT_put_ne]; done)))))
      refine ops_nil (SC.wp_cond (t := true) (by simp (disch := first | omega | (simp only [size_put]; omega)) [eval_tmp, eval_const, put_none, getT_put, getT_put_ne]) ?_)
      rw [if_pos rfl]
      refine SC.wp_seq (SC.wp_seq (SC.wp_reg ?_))
      repeat (first | (apply ops_1; (focus (simp (disch := first | omega | (simp only [size_put]; omega)) [qv, qcall, vop, iop, eval_tmp, eval_const, put_none, getT_put, getT_put_ne, g9]; try rfl))) | (apply ops_y; (focus rfl); (focus (first | omega | (simp only [size_put]; omega))); (focus (simp (disch := first | omega | (simp only [size_put]; omega)) [put_none, getT_put, getT_put_ne, g9]; done)); (focus (simp (disch := first | omega | (simp only [size_put]; omega)) [qv, qcall, vop, iop, eval_tmp, eval_const, put_none, getT_put, getT_put_ne, g9]; try rfl))) | (apply ops_n; (focus rfl); (focus (first | omega | (simp only [size_put]; omega))); (focus (first | (left; simp (disch := first | omega | (simp only [size_put]; omega)) [put_none, getT_put, getT_put_ne, g9]; done) | (right; simp (disch := first | omega | (simp only [size_put]; omega)) [put_none, getT_put, getT_put_ne]; done)))))
      refine ops_nil (SC.wp_cond (t := nl) (by simp (disch := first | omega | (simp only [size_put]; omega)) [eval_tmp, eval_const, put_none, getT_put, getT_put_ne]) ?_)
      cases nl
      · rw [if_neg (by simp)]
        refine SC.wp_skip ?_
        simp only [Exit.then]
        have heq : wField ver flex h (.struct typ size dflt tags fs) (.mk n s tnull l u) = [1] ++ (wFs ver flex fs l ++ wTags flex u) := by simp [wField, h0n, hnl, wTy, Tree.l, Tree.u]
        rw [heq] at hl
        refine SC.wp_seq (SC.wp_dreg hm (Below (w.heap.size + 2) w3.drew) [(1, true), (2, true), (3, true), (4, true), (5, true), (0, false), (6, false), (7, false), (8, true)] (by rfl) (by rfl) (by decide) (Below.refl _ _) ?_)
        have hlt : w.heap.size < w.heap.size + 2 := by omega
        have hlt1 : w.heap.size + 1 < w.heap.size + 2 := by omega
        have hcd : ∀ j, w3.drew.cell? ⟨w.heap.size, j, none⟩ = #[Value.int .i64 (kindOf (.struct typ size dflt tags fs)), .int .i64 h.from_, .int .i64 h.to, .int .i64 h.null, .int .i64 (-1), .int .i64 h.dflt, .int .i64 of_, sub][j]? := hc3
        have hTd : rangeV w3.drew (w.heap.size + 1) 0 5 = some [.int .i64 n, .slice sb s.length sc, .bool tnull, .slice lb l.length lc, .slice ub u.length uc] := (rangeV_mono (w := w3.drew) (w0 := w3) rfl 5 0).trans hT5
        iterate 5 (first | (apply dr_1; (focus rfl); (focus (simp (disch := first | omega | (simp only [size_put]; omega)) [qv, qcall, vop, iop, eval_tmp, eval_const, put_none, getT_put, getT_put_ne, hst, g1, g2, g4, g7, hlt, hlt1, hcd, hTd]; try rfl))) | (apply dr_y; (focus rfl); (focus rfl); (focus (first | omega | (simp only [size_put]; omega))); (focus (simp (disch := first | omega | (simp only [size_put]; omega)) [put_none, getT_put, getT_put_ne, hst, g1, g2, g4, g7, hlt, hlt1, hcd, hTd]; done)); (focus (simp (disch := first | omega | (simp only [size_put]; omega)) [qv, qcall, vop, iop, eval_tmp, eval_const, put_none, getT_put, getT_put_ne, hst, g1, g2, g4, g7, hlt, hlt1, hcd, hTd]; try rfl))) | (apply dr_n; (focus rfl); (focus rfl); (focus (first | omega | (simp only [size_put]; omega))); (focus (first | (left; simp (disch := first | omega | (simp only [size_put]; omega)) [put_none, getT_put, getT_put_ne, hst, g1, g2, g4, g7, hlt, hlt1, hcd, hTd]; done) | (right; simp (disch := first | omega | (simp only [size_put]; omega)) [put_none, getT_put, getT_put_ne]; done)))))
        refine dreg_call (argsV := #[.int .i64 1, .int .i64 ((1 : Nat) : Int)]) rfl S.oF (S.cF w3.drew 1 1 (by decide)) (by simp [eval_const]) ?_
        rintro e w4 ⟨v, rfl, p1, p2⟩
        refine ⟨v, rfl, p2.mono (by exact hsz3), ?_⟩
        rw [hf2] at p1
        have hw4 : w3.heap.size ≤ w4.heap.size := p2.size
        have hb4 : Below w.heap.size w w4 := hbw.drew.trans ((show Below w3.heap.size w3.drew w4 from p2).mono (by omega))
        simp only [SubV] at hsub
        refine dreg_call rfl oP (cP w4 sub ver flex _ _ (FsV.down hb4 (by omega) hsub) (TV.down hb4 (by omega) ht0) (by simp only [Tree.l, Tree.u]; simp only [List.length_append, List.length_cons, List.length_nil] at hl ⊢; omega)) (by simp (disch := first | omega | (simp only [size_put]; omega)) [eval_tmp, eval_const, put_none, getT_put, getT_put_ne, treV]) ?_
        rintro e w5 ⟨v2, rfl, p3, p4⟩
        refine ⟨v2, rfl, (p2.mono hsz3).trans (p4.mono (by omega)), ?_⟩
        have hB5 : w.heap.size + 2 ≤ w5.heap.size := by have := p4.size; omega
        have ho1 : Own X.U8 w5 (w.heap.size + 2) v [1] := own_down (own_keep p1 p4) hsz3
        refine dreg_n rfl rfl (opw_appendU8 (B := w.heap.size + 2) (dv := v) (xv := v2) (xs := [1]) (bs := wFs ver flex fs l ++ wTags flex u) hU8s (by simp (disch := first | omega | (simp only [size_put]; omega)) [eval_tmp, eval_const, put_none, getT_put, getT_put_ne]) (by simp (disch := first | omega | (simp only [size_put]; omega)) [eval_tmp, eval_const, put_none, getT_put, getT_put_ne]) rfl ho1 hB5 (src_own hU8s p3) (by simp only [List.length_append] at hl ⊢; exact hl) ?_)
        intro v3 w6 p5 p6 p7 _
        refine ⟨((p2.mono hsz3).trans (p4.mono (by omega))).trans p6, ?_⟩
        repeat (first | (apply dr_1; (focus rfl); (focus (simp (disch := first | omega | (simp only [size_put]; omega)) [qv, qcall, vop, iop, eval_tmp, eval_const, put_none, getT_put, getT_put_ne]; try rfl))) | (apply dr_y; (focus rfl); (focus rfl); (focus (first | omega | (simp only [size_put]; omega))); (focus (simp (disch := first | omega | (simp only [size_put]; omega)) [put_none, getT_put, getT_put_ne]; done)); (focus (simp (disch := first | omega | (simp only [size_put]; omega)) [qv, qcall, vop, iop, eval_tmp, eval_const, put_none, getT_put, getT_put_ne]; try rfl))) | (apply dr_n; (focus rfl); (focus rfl); (focus (first | omega | (simp only [size_put]; omega))); (focus (first | (left; simp (disch := first | omega | (simp only [size_put]; omega)) [put_none, getT_put, getT_put_ne]; done) | (right; simp (disch := first | omega | (simp only [size_put]; omega)) [put_none, getT_put, getT_put_ne]; done)))))
        refine dreg_nil ?_
        simp only [Exit.then]
        refine SC.wp_ret ?_
        try simp only [Exit.then]
        exact fin _ _ _ v3 (by simp [defers_put, gd]) (by simp (disch := first | omega | (simp only [size_put]; omega)) [eval_tmp, eval_const, put_none, getT_put, getT_put_ne]) (own_down p5 (by omega)) (hb4.trans ((p4.mono (by omega)).trans (p6.mono (by omega)))) heq.symm
      · rw [if_pos rfl]
        refine SC.wp_seq (SC.wp_reg ?_)
        refine ops_call (argsV := #[.int .i64 (-1), .int .i64 ((1 : Nat) : Int)]) S.oF (S.cF w3 (-1) 1 (by decide)) (by simp [eval_const]) ?_
        rintro e w4 ⟨v, rfl, p1, p2⟩
        refine ⟨v, rfl, ?_⟩
        repeat (first | (apply ops_1; (focus (simp (disch := first | omega | (simp only [size_put]; omega)) [qv, qcall, vop, iop, eval_tmp, eval_const, put_none, getT_put, getT_put_ne]; try rfl))) | (apply ops_y; (focus rfl); (focus (first | omega | (simp only [size_put]; omega))); (focus (simp (disch := first | omega | (simp only [size_put]; omega)) [put_none, getT_put, getT_put_ne]; done)); (focus (simp (disch := first | omega | (simp only [size_put]; omega)) [qv, qcall, vop, iop, eval_tmp, eval_const, put_none, getT_put, getT_put_ne]; try rfl))) | (apply ops_n; (focus rfl); (focus (first | omega | (simp only [size_put]; omega))); (focus (first | (left; simp (disch := first | omega | (simp only [size_put]; omega)) [put_none, getT_put, getT_put_ne]; done) | (right; simp (disch := first | omega | (simp only [size_put]; omega)) [put_none, getT_put, getT_put_ne]; done)))))
        refine ops_nil (SC.wp_ret ?_)
        simp only [Exit.then]
        rw [hf1] at p1
        exact fin _ _ _ v (by simp [defers_put, gd]) (by simp (disch := first | omega | (simp only [size_put]; omega)) [eval_tmp, eval_const, put_none, getT_put, getT_put_ne]) (own_down p1 (by omega)) (hbw.trans (p2.mono (by omega))) (by simp [wField, h0n, hnl])
  | list typ el size of =>
    simp only [ofOK] at hof
    obtain ⟨rfl, hofl⟩ := hof
    simp only [SubV] at hsub
    simp only [SubC] at cP
    have hlcase : ∀ l' : List Tree, l' = (if nl then [] else l.take most) → wField ver flex h (.list typ el size of) (.mk n s tnull l u) = counted flex nl l'.length 4 ++ l'.flatMap (fun x => wTy ver flex of false x) := by
      intro l' hl'
      simp only [wField, wTy, hnl, Tree.l]
      rw [← hl']
    refine SC.wp_seq (SC.wp_seq (SC.wp_reg ?_))
    have e11 : (kindOf (.list typ el size of) == 11) = true := rfl
    repeat (first | (apply ops_1; (focus (simp (disch := first | omega | (simp only [size_put]; omega)) [qv, qcall, vop, iop, eval_tmp, eval_const, put_none, getT_put, getT_put_ne, hst, hc3, g4, e11]; try rfl))) | (apply ops_y; (focus rfl); (focus (first | omega | (simp only [size_put]; omega))); (focus (simp (disch := first | omega | (simp only [size_put]; omega)) [put_none, getT_put, getT_put_ne, hst, hc3, g4, e11]; done)); (focus (simp (disch := first | omega | (simp only [size_put]; omega)) [qv, qcall, vop, iop, eval_tmp, eval_const, put_none, getT_put, getT_put_ne, hst, hc3, g4, e11]; try rfl))) | (apply ops_n; (focus rfl); (focus (first | omega | (simp only [size_put]; omega))); (focus (first | (left; simp (disch := first | omega | (simp only [size_put]; omega)) [put_none, getT_put, getT_put_ne, hst, hc3, g4, e11]; done) | (right; simp (disch := first | omega | (simp only [size_put]; omega)) [put_none, getT_put, getT_put_ne]; done)))))
    refine ops_nil (SC.wp_cond (t := true) (by simp (disch := first | omega | (simp only [size_put]; omega)) [eval_tmp, eval_const, put_none, getT_put, getT_put_ne]) ?_)
    rw [if_pos rfl]
    refine SC.wp_seq (SC.wp_reg ?_)
    iterate 2 (first | (apply ops_1; (focus (simp (disch := first | omega | (simp only [size_put]; omega)) [qv, qcall, vop, iop, eval_tmp, eval_const, put_none, getT_put, getT_put_ne, hst, hd3, g7]; try rfl))) | (apply ops_y; (focus rfl); (focus (first | omega | (simp only [size_put]; omega))); (focus (simp (disch := first | omega | (simp only [size_put]; omega)) [put_none, getT_put, getT_put_ne, hst, hd3, g7]; done)); (focus (simp (disch := first | omega | (simp only [size_put]; omega)) [qv, qcall, vop, iop, eval_tmp, eval_const, put_none, getT_put, getT_put_ne, hst, hd3, g7]; try rfl))) | (apply ops_n; (focus rfl); (focus (first | omega | (simp only [size_put]; omega))); (focus (first | (left; simp (disch := first | omega | (simp only [size_put]; omega)) [put_none, getT_put, getT_put_ne, hst, hd3, g7]; done) | (right; simp (disch := first | omega | (simp only [size_put]; omega)) [put_none, getT_put, getT_put_ne]; done)))))
    refine ops_call S.oTh (S.cTh w3 lb l.length lc hlc) (by simp (disch := first | omega | (simp only [size_put]; omega)) [eval_tmp, eval_const, put_none, getT_put, getT_put_ne]) ?_
    rintro e w4 ⟨rfl, rfl⟩
    refine ⟨_, rfl, ?_⟩
    repeat (first | (apply ops_1; (focus (simp (disch := first | omega | (simp only [size_put]; omega)) [qv, qcall, vop, iop, eval_tmp, eval_const, put_none, getT_put, getT_put_ne]; try rfl))) | (apply ops_y; (focus rfl); (focus (first | omega | (simp only [size_put]; omega))); (focus (simp (disch := first | omega | (simp only [size_put]; omega)) [put_none, getT_put, getT_put_ne]; done)); (focus (simp (disch := first | omega | (simp only [size_put]; omega)) [qv, qcall, vop, iop, eval_tmp, eval_const, put_none, getT_put, getT_put_ne]; try rfl))) | (apply ops_n; (focus rfl); (focus (first | omega | (simp only [size_put]; omega))); (focus (first | (left; simp (disch := first | omega | (simp only [size_put]; omega)) [put_none, getT_put, getT_put_ne]; done) | (right; simp (disch := first | omega | (simp only [size_put]; omega)) [put_none, getT_put, getT_put_ne]; done)))))
    refine ops_nil ?_
    simp only [Exit.then]
    refine SC.wp_seq (SC.wp_seq (SC.wp_reg ?_))
    repeat (first | (apply ops_1; (focus (simp (disch := first | omega | (simp only [size_put]; omega)) [qv, qcall, vop, iop, eval_tmp, eval_const, put_none, getT_put, getT_put_ne, g9]; try rfl))) | (apply ops_y; (focus rfl); (focus (first | omega | (simp only [size_put]; omega))); (focus (simp (disch := first | omega | (simp only [size_put]; omega)) [put_none, getT_put, getT_put_ne, g9]; done)); (focus (simp (disch := first | omega | (simp only [size_put]; omega)) [qv, qcall, vop, iop, eval_tmp, eval_const, put_none, getT_put, getT_put_ne, g9]; try rfl))) | (apply ops_n; (focus rfl); (focus (first | omega | (simp only [size_put]; omega))); (focus (first | (left; simp (disch := first | omega | (simp only [size_put]; omega)) [put_none, getT_put, getT_put_ne, g9]; done) | (right; simp (disch := first | omega | (simp only [size_put]; omega)) [put_none, getT_put, getT_put_ne]; done)))))
    refine ops_nil (SC.wp_cond (t := nl) (by simp (disch := first | omega | (simp only [size_put]; omega)) [eval_tmp, eval_const, put_none, getT_put, getT_put_ne]) ?_)
    have elen : (l.take most).length = min l.length most := by simp [Nat.min_comm]
    cases nl
    · rw [if_neg (by simp)]
      refine SC.wp_skip ?_
      simp only [Exit.then]
      have heq := hlcase (l.take most) rfl
      rw [heq] at hl
      refine list_tail hX S hm oV (hV of hofl cP) #[Value.int .i64 (kindOf (.list typ el size of)), .int .i64 h.from_, .int .i64 h.to, .int .i64 h.null, .int .i64 (-1), .int .i64 h.dflt, .int .i64 (kindOf of), sub] sub rfl rfl rfl hc3 hbw hsz3 hsub ver flex false (l.take most) lb lc b o cs
        (by rw [elen]; omega) (by rw [elen]; omega) ?_ ?_ ?_ (by simp [size_put, g]) (by simp (disch := first | omega | (simp only [size_put]; omega)) [eval_tmp, eval_const, put_none, getT_put, getT_put_ne, g1]) (by simp (disch := first | omega | (simp only [size_put]; omega)) [eval_tmp, eval_const, put_none, getT_put, getT_put_ne, g2]) (by simp (disch := first | omega | (simp only [size_put]; omega)) [eval_tmp, eval_const, put_none, getT_put, getT_put_ne, g4]) (by simp (disch := first | omega | (simp only [size_put]; omega)) [eval_tmp, eval_const, put_none, getT_put, getT_put_ne, g9]) (by simp (disch := first | omega | (simp only [size_put]; omega)) [eval_tmp, eval_const, put_none, getT_put, getT_put_ne, elen]) hl ?_
      · intro hne
        exact hll (fun e => hne (by rw [e]; rfl))
      · intro i hi
        exact hrr i (by rw [elen] at hi; omega)
      · intro i x hx
        refine htt i x ?_
        rw [List.getElem?_take] at hx
        split at hx
        · exact hx
        · cases hx
      · intro a' w' v p1 p2 p3 p4
        exact fin _ _ _ v (by rw [p1]; simp [defers_put, gd]) p2 p3 p4 heq.symm
    · rw [if_pos rfl]
      refine SC.wp_reg ?_
      repeat (first | (apply ops_1; (focus (simp (disch := first | omega | (simp only [size_put]; omega)) [qv, qcall, vop, iop, eval_tmp, eval_const, put_none, getT_put, getT_put_ne]; try rfl))) | (apply ops_y; (focus rfl); (focus (first | omega | (simp only [size_put]; omega))); (focus (simp (disch := first | omega | (simp only [size_put]; omega)) [put_none, getT_put, getT_put_ne]; done)); (focus (simp (disch := first | omega | (simp only [size_put]; omega)) [qv, qcall, vop, iop, eval_tmp, eval_const, put_none, getT_put, getT_put_ne]; try rfl))) | (apply ops_n; (focus rfl); (focus (first | omega | (simp only [size_put]; omega))); (focus (first | (left; simp (disch := first | omega | (simp only [size_put]; omega)) [put_none, getT_put, getT_put_ne]; done) | (right; simp (disch := first | omega | (simp only [size_put]; omega)) [put_none, getT_put, getT_put_ne]; done)))))
      refine ops_nil ?_
      simp only [Exit.then]
      have heq := hlcase [] rfl
      rw [heq] at hl
      refine list_tail hX S hm oV (hV of hofl cP) #[Value.int .i64 (kindOf (.list typ el size of)), .int .i64 h.from_, .int .i64 h.to, .int .i64 h.null, .int .i64 (-1), .int .i64 h.dflt, .int .i64 (kindOf of), sub] sub rfl rfl rfl hc3 hbw hsz3 hsub ver flex true [] none 0 0 0 (fun _ => [])
        (Nat.le_refl _) (Nat.zero_le _) (fun h => absurd rfl h) (fun i hi => by simp at hi) (fun i x hx => by simp at hx) (by simp [size_put, g]) (by simp (disch := first | omega | (simp only [size_put]; omega)) [eval_tmp, eval_const, put_none, getT_put, getT_put_ne, g1]) (by simp (disch := first | omega | (simp only [size_put]; omega)) [eval_tmp, eval_const, put_none, getT_put, getT_put_ne, g2]) (by simp (disch := first | omega | (simp only [size_put]; omega)) [eval_tmp, eval_const, put_none, getT_put, getT_put_ne, g4]) (by simp (disch := first | omega | (simp only [size_put]; omega)) [eval_tmp, eval_const, put_none, getT_put, getT_put_ne, g9]) (by simp (disch := first | omega | (simp only [size_put]; omega)) [eval_tmp, eval_const, put_none, getT_put, getT_put_ne]) hl ?_
      intro a' w' v p1 p2 p3 p4
      exact fin _ _ _ v (by rw [p1]; simp [defers_put, gd]) p2 p3 p4 heq.symm
end
end Go.Proofs.Ytioodpjcpadkoaa.K
