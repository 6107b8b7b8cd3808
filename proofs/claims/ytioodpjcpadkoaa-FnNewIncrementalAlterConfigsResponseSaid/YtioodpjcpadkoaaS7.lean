/- The reference's function 'value'. No condition. -/
import Derived.Test.YtioodpjcpadkoaaS6
namespace Go.Proofs.Ytioodpjcpadkoaa.K
open Go Go.RowKit Go.Proofs.Ytioodpjcpadkoaa.T
set_option linter.unusedSimpArgs false
set_option linter.unusedVariables false
set_option maxHeartbeats 2000000

/-- the contract of the reference's function 'part', at these fields -/
def PartC (G : List (Nat × Bytes) → Prop) (P : Program) (X : STy) (f : FuncId) (fs : Fs) : Prop :=
  ∀ (w : World) (fv : Value) (ver : Int) (flex : Bool) (tv : Value) (t : Tree), FsV w (· < w.heap.size) fs fv → TV G w (· < w.heap.size) t tv → (wFs ver flex fs t.l ++ wTags flex t.u).length ≤ lim →
    Calls P f #[fv, .int .i64 ver, .bool flex, tv] w (RetOwn X.U8 w (wFs ver flex fs t.l ++ wTags flex t.u))
/-- the fields of a part, or of a list's parts, meet this -/
def SubC (C : Fs → Prop) : Ty → Prop
  | .struct _ _ _ _ fs => C fs
  | .list _ _ _ of => SubC C of
  | .prim _ => True

/-- the contracts of the small functions -/
structure SmallC (P : Program) (X : STy) (fW fTh fC fWi fF fU fHas fNull fAt : FuncId) (G : List (Nat × Bytes) → Prop) : Prop where
  oW : FnOK P fW
  cW : ∀ (w : World) (base : Option Addr) (len cap : Nat), len ≤ cap → Calls P fW #[.slice base len cap] w fun e w' => e = .returned (.slice base (min len most) cap) ∧ w = w'
  oTh : FnOK P fTh
  cTh : ∀ (w : World) (base : Option Addr) (len cap : Nat), len ≤ cap → Calls P fTh #[.slice base len cap] w fun e w' => e = .returned (.slice base (min len most) cap) ∧ w = w'
  oC : FnOK P fC
  cC : ∀ (w : World) (flex null : Bool) (n size : Nat), n < 9223372036854775807 → size ≤ 8 → Calls P fC #[.bool flex, .bool null, .int .i64 (n : Int), .int .i64 (size : Int)] w (RetOwn X.U8 w (counted flex null n size))
  oWi : FnOK P fWi
  cWi : ∀ (w : World) (kind : Int), Calls P fWi #[.int .i64 kind] w fun e w' => e = .returned (.int .i64 (widthOf kind : Int)) ∧ w = w'
  oF : FnOK P fF
  cF : ∀ (w : World) (n : Int) (size : Nat), size ≤ 8 → Calls P fF #[.int .i64 n, .int .i64 (size : Int)] w (RetOwn X.U8 w (fixed n size))
  oU : FnOK P fU
  cU : ∀ (w : World) (n : Nat), n < 18446744073709551616 → Calls P fU #[.int .u64 (n : Int)] w (RetOwn X.U8 w (uvarint n))
  oH : FnOK P fHas
  cH : ∀ (w : World) (k fr to nu tg df of_ : Int) (sub : Value) (ver : Int), Calls P fHas #[fldV k fr to nu tg df of_ sub, .int .i64 ver] w fun e w' => e = .returned (.bool (decide (fr ≤ ver) && (decide (to < 0) || decide (ver ≤ to)))) ∧ Below w.heap.size w w'
  oN : FnOK P fNull
  cN : ∀ (w : World) (k fr to nu tg df of_ : Int) (sub : Value) (ver : Int) (n : Int) (s l u : Value) (null : Bool), Calls P fNull #[fldV k fr to nu tg df of_ sub, .int .i64 ver, treV n s null l u] w fun e w' => e = .returned (.bool (null && (decide (0 ≤ nu) && decide (nu ≤ ver)))) ∧ Below w.heap.size w w'
  oA : FnOK P fAt
  cA : ∀ (w : World) (t : Tree) (tv : Value) (i : Nat), TV G w (· < w.heap.size) t tv → Calls P fAt #[tv, .int .i64 (i : Int)] w fun e w' => ∃ v, e = .returned v ∧ TV G w (· < w.heap.size) ((t.l.drop i).headD Tree.zero) v ∧ Below w.heap.size w w'

section
variable {G : List (Nat × Bytes) → Prop} {P : Program} {X : STy} {f : FuncId} {fn : Func} {fW fTh fC fWi fF fU fHas fNull fAt fPart : FuncId}

theorem setCells_row (P : Program) {w : World} {g o : Nat} {t : TypeId} {vs : List Value} {cur : Array Value} (hg : w.heap[g]? = some (.cells cur t (0, 0))) (hl : o + vs.length ≤ cur.size) (h1 : ∀ v ∈ vs, v.oneCell' = true) :
    w.setCells g o vs = w.setRow g (cur.toList.take o ++ vs ++ cur.toList.drop (o + vs.length)).toArray := by
  have e1 := run_storeCells_at P g o t vs 0 cur w hg (by simpa using hl) h1
  have e2 := run_storeCells_cells (P := P) g o vs 0 w (fun j hj => by
      rw [cell_of_row _ _ _ _ _ _ hg]
      simp only [Nat.add_zero]
      rw [Array.getElem?_eq_getElem (by omega)]
      rfl) (fun j hj => by simp [World.frozen?, hg]) h1
  rw [e1] at e2
  simp only [Nat.add_zero, Result.ok.injEq, true_and] at e2
  exact e2.symm

theorem bytesAt_whole {w : World} {F : Nat → Prop} {base : Option Addr} {bs : Bytes} (h : BytesAt w F base bs) (n : Nat) : BytesAt w F base (bs.take n) := by
  rcases h with ⟨h1, h2⟩ | ⟨b, o, h1, h2, h3⟩
  · exact .inl ⟨h1, by rw [h2]; simp⟩
  · refine .inr ⟨b, o, h1, h2, fun j u hu => h3 j u ?_⟩
    rw [List.getElem?_take] at hu
    split at hu
    · exact hu
    · cases hu

theorem own_down {tU8 : Nat} {w : World} {B B' : Nat} {v : Value} {xs : Bytes} (h : Own tU8 w B v xs) (hB : B' ≤ B) : Own tU8 w B' v xs := by
  refine ⟨h.1, h.2.imp id ?_⟩
  rintro ⟨g, cap, cur, h1, h2, h3⟩
  exact ⟨g, cap, cur, h1, Nat.le_trans hB h2, h3⟩

/-- a count, then octets -/
theorem text_tail (hX : stOK P X = true) (S : SmallC P X fW fTh fC fWi fF fU fHas fNull fAt G) {a : Act} {w w1 : World} {Q : Exit → Act → World → Prop} (s d size : Nat) (hs8 : size ≤ 8) (h12 : 12 < s) (hsd : s < d) (hd70 : d + 6 < a.tmps.size)
    (bs : Bytes) (base : Option Addr) (cap : Nat) (flex null : Bool) (h4 : getT a 4 = .bool flex) (h2 : getT a 2 = .bool null) (hsv : getT a s = .slice base bs.length cap) (hb : BytesAt w1 (· < w1.heap.size) base bs) (hbw : Below w.heap.size w w1) (hsz : w.heap.size ≤ w1.heap.size)
    (hl : (counted flex null bs.length size ++ bs).length ≤ lim)
    (hQ : ∀ (a' : Act) (w' : World) (v : Value), a'.defers = a.defers → getT a' 12 = v → Own X.U8 w' w.heap.size v (counted flex null bs.length size ++ bs) → Below w.heap.size w w' → Q .ret a' w') :
    SC.wp P (.seq (.reg [mv d 4, mv (d + 1) 2, mv (d + 2) s, lenOp (d + 3) X.Bs (d + 2), ⟨some (d + 4), .call ⟨.value (.func fC), #[.tmp d, .tmp (d + 1), .tmp (d + 3), .const (.int .i64 (size : Int))], #[]⟩, none⟩, mv (d + 5) s, ⟨some (d + 6), .call ⟨.builtin .append, #[.tmp (d + 4), .tmp (d + 5)], #[X.Bs, X.Bs]⟩, none⟩, asg 12 (d + 6)]) .ret) Q a w1 := by
  have hst := st_facts hX
  have hU8s := hst.2.2.1.1
  have hlim : lim = 70368744177664 := rfl
  have hbl : bs.length < 9223372036854775807 := by rw [List.length_append] at hl; omega
  refine SC.wp_seq (SC.wp_reg ?_)
  iterate 4 (first | (apply ops_1; (focus (simp (disch := first | omega | (simp only [size_put]; omega)) [qv, qcall, vop, iop, eval_tmp, eval_const, put_none, getT_put, getT_put_ne, hst, h4, h2, hsv]; try rfl))) | (apply ops_y; (focus rfl); (focus (first | omega | (simp only [size_put]; omega))); (focus (simp (disch := first | omega | (simp only [size_put]; omega)) [put_none, getT_put, getT_put_ne, hst, h4, h2, hsv]; done)); (focus (simp (disch := first | omega | (simp only [size_put]; omega)) [qv, qcall, vop, iop, eval_tmp, eval_const, put_none, getT_put, getT_put_ne, hst, h4, h2, hsv]; try rfl))) | (apply ops_n; (focus rfl); (focus (first | omega | (simp only [size_put]; omega))); (focus (first | (left; simp (disch := first | omega | (simp only [size_put]; omega)) [put_none, getT_put, getT_put_ne, hst, h4, h2, hsv]; done) | (right; simp (disch := first | omega | (simp only [size_put]; omega)) [put_none, getT_put, getT_put_ne]; done)))))
  refine ops_call S.oC (S.cC w1 flex null bs.length size hbl hs8) (by simp (disch := first | omega | (simp only [size_put]; omega)) [eval_tmp, eval_const, put_none, getT_put, getT_put_ne]) ?_
  rintro e w2 ⟨v, rfl, r1, r2⟩
  refine ⟨v, rfl, ?_⟩
  iterate 1 (first | (apply ops_1; (focus (simp (disch := first | omega | (simp only [size_put]; omega)) [qv, qcall, vop, iop, eval_tmp, eval_const, put_none, getT_put, getT_put_ne, hsv]; try rfl))) | (apply ops_y; (focus rfl); (focus (first | omega | (simp only [size_put]; omega))); (focus (simp (disch := first | omega | (simp only [size_put]; omega)) [put_none, getT_put, getT_put_ne, hsv]; done)); (focus (simp (disch := first | omega | (simp only [size_put]; omega)) [qv, qcall, vop, iop, eval_tmp, eval_const, put_none, getT_put, getT_put_ne, hsv]; try rfl))) | (apply ops_n; (focus rfl); (focus (first | omega | (simp only [size_put]; omega))); (focus (first | (left; simp (disch := first | omega | (simp only [size_put]; omega)) [put_none, getT_put, getT_put_ne, hsv]; done) | (right; simp (disch := first | omega | (simp only [size_put]; omega)) [put_none, getT_put, getT_put_ne]; done)))))
  refine opsw_none rfl (opw_appendU8 (B := w.heap.size) (dv := v) (xv := .slice base bs.length cap) (xs := counted flex null bs.length size) (bs := bs) hU8s (by simp (disch := first | omega | (simp only [size_put]; omega)) [eval_tmp, eval_const, put_none, getT_put, getT_put_ne]) (by simp (disch := first | omega | (simp only [size_put]; omega)) [eval_tmp, eval_const, put_none, getT_put, getT_put_ne]) rfl (own_down r1 hsz) (Nat.le_trans hsz r2.size) (src_bytes hU8s (bytesAt_mono (F' := fun _ => True) hb (fun _ _ => trivial) (fun k hk => r2.block k hk)) cap) (by rw [List.length_append] at hl; exact hl) ?_)
  intro v2 w3 p1 p2 p3 _
  repeat (first | (apply ops_1; (focus (simp (disch := first | omega | (simp only [size_put]; omega)) [qv, qcall, vop, iop, eval_tmp, eval_const, put_none, getT_put, getT_put_ne]; try rfl))) | (apply ops_y; (focus rfl); (focus (first | omega | (simp only [size_put]; omega))); (focus (simp (disch := first | omega | (simp only [size_put]; omega)) [put_none, getT_put, getT_put_ne]; done)); (focus (simp (disch := first | omega | (simp only [size_put]; omega)) [qv, qcall, vop, iop, eval_tmp, eval_const, put_none, getT_put, getT_put_ne]; try rfl))) | (apply ops_n; (focus rfl); (focus (first | omega | (simp only [size_put]; omega))); (focus (first | (left; simp (disch := first | omega | (simp only [size_put]; omega)) [put_none, getT_put, getT_put_ne]; done) | (right; simp (disch := first | omega | (simp only [size_put]; omega)) [put_none, getT_put, getT_put_ne]; done)))))
  refine ops_nil (SC.wp_ret (hQ _ _ v2 (by simp [defers_put]) (by simp (disch := first | omega | (simp only [size_put]; omega)) [eval_tmp, eval_const, put_none, getT_put, getT_put_ne]) p1 ((hbw.trans (r2.mono hsz)).trans p2)))

theorem value_ok (hX : stOK P X = true) (S : SmallC P X fW fTh fC fWi fF fU fHas fNull fAt G) (hm : P.follows .mixedOrders = true) (oP : FnOK P fPart)
    (hf : P.funcs[f]? = some fn) (hb : fn.body.map strip = some (sc_value X.T X.I X.I64 X.U8 X.Bs fW fC fPart fWi fF)) (hn : fn.ntmps = 70) (hr : fn.results = #[.tmp 12])
    (w : World) (ty : Ty) (hty : isList ty = false) (sub : Value) (null : Bool) (ver : Int) (flex : Bool) (t : Tree) (tv : Value) (hsub : SubV w (· < w.heap.size) ty sub) (cP : SubC (PartC G P X fPart) ty)
    (ht : TV G w (· < w.heap.size) t tv) (hl : (wTy ver flex ty null t).length ≤ lim) :
    Calls P f #[.int .i64 (kindOf ty), sub, .bool null, .int .i64 ver, .bool flex, tv] w (RetOwn X.U8 w (wTy ver flex ty null t)) := by
  have hst := st_facts hX
  have hU8s := hst.2.2.1.1
  refine fn_calls hf hb hn (by simp) fun a0 hs hd ha => ?_
  have h0 := ha 0 _ rfl
  have h1 := ha 1 _ rfl
  have h2 := ha 2 _ rfl
  have h3 := ha 3 _ rfl
  have h4 := ha 4 _ rfl
  have h5 := ha 5 _ rfl
  simp only [List.getElem_toArray, List.getElem_cons_zero, List.getElem_cons_succ] at h0 h1 h2 h3 h4 h5
  have ht0 := ht
  cases ht with
  | mk n s tnull l u sb lb ub sc lc uc b o cs hs1 hsc hlc huc hll hrr htt hG hu =>
  refine SC.wp_seq (SC.wp_reg (ops_box (B := w.heap.size) (w0 := w) (by rw [eval_tmp, h5]; rfl) (Nat.le_refl _) (Below.refl _ _) fun w1 q1 q2 q3 hc q5 => ?_))
  repeat (first | (apply ops_1; (focus (simp (disch := first | omega | (simp only [size_put]; omega)) [qv, qcall, vop, iop, eval_tmp, eval_const, put_none, getT_put, getT_put_ne]; try rfl))) | (apply ops_y; (focus rfl); (focus (first | omega | (simp only [size_put]; omega))); (focus (simp (disch := first | omega | (simp only [size_put]; omega)) [put_none, getT_put, getT_put_ne]; done)); (focus (simp (disch := first | omega | (simp only [size_put]; omega)) [qv, qcall, vop, iop, eval_tmp, eval_const, put_none, getT_put, getT_put_ne]; try rfl))) | (apply ops_n; (focus rfl); (focus (first | omega | (simp only [size_put]; omega))); (focus (first | (left; simp (disch := first | omega | (simp only [size_put]; omega)) [put_none, getT_put, getT_put_ne]; done) | (right; simp (disch := first | omega | (simp only [size_put]; omega)) [put_none, getT_put, getT_put_ne]; done)))))
  refine ops_nil (SC.wp_seq (SC.wp_seq (SC.wp_reg ?_)))
  repeat (first | (apply ops_1; (focus (simp (disch := first | omega | (simp only [size_put]; omega)) [qv, qcall, vop, iop, eval_tmp, eval_const, put_none, getT_put, getT_put_ne, h0]; try rfl))) | (apply ops_y; (focus rfl); (focus (first | omega | (simp only [size_put]; omega))); (focus (simp (disch := first | omega | (simp only [size_put]; omega)) [put_none, getT_put, getT_put_ne, h0]; done)); (focus (simp (disch := first | omega | (simp only [size_put]; omega)) [qv, qcall, vop, iop, eval_tmp, eval_const, put_none, getT_put, getT_put_ne, h0]; try rfl))) | (apply ops_n; (focus rfl); (focus (first | omega | (simp only [size_put]; omega))); (focus (first | (left; simp (disch := first | omega | (simp only [size_put]; omega)) [put_none, getT_put, getT_put_ne, h0]; done) | (right; simp (disch := first | omega | (simp only [size_put]; omega)) [put_none, getT_put, getT_put_ne]; done)))))
  refine ops_nil (SC.wp_block ?_)
  have hsz1 : w.heap.size ≤ w1.heap.size := by omega
  clear q1 q5
  have fin : ∀ (out : Bytes) (a : Act) (w' : World) (v : Value), a.defers = [] → getT a 12 = v → Own X.U8 w' w.heap.size v out → Below w.heap.size w w' → out = wTy ver flex ty null (.mk n s tnull l u) → bodyPost P fn (RetOwn X.U8 w (wTy ver flex ty null (.mk n s tnull l u))) .ret a w' := by
    intro out a w' v q2 q3 q4 q5 q6
    subst q6
    exact ret_tmp hr q2 ⟨v, by rw [q3], q4, q5⟩
  cases ty with
  | list _ _ _ _ => simp [isList] at hty
  | struct typ size dflt tags fs =>
    simp only [SubC] at cP
    simp only [SubV] at hsub
    simp only [kindOf] at h0 ⊢
    iterate 4 (refine SC.wp_seq (SC.wp_reg ?_); (repeat (first | (apply ops_1; (focus (simp (disch := first | omega | (simp only [size_put]; omega)) [qv, qcall, vop, iop, eval_tmp, eval_const, put_none, getT_put, getT_put_ne]; try rfl))) | (apply ops_y; (focus rfl); (focus (first | omega | (simp only [size_put]; omega))); (focus (simp (disch := first | omega | (simp only [size_put]; omega)) [put_none, getT_put, getT_put_ne]; done)); (focus (simp (disch := first | omega | (simp only [size_put]; omega)) [qv, qcall, vop, iop, eval_tmp, eval_const, put_none, getT_put, getT_put_ne]; try rfl))) | (apply ops_n; (focus rfl); (focus (first | omega | (simp only [size_put]; omega))); (focus (first | (left; simp (disch := first | omega | (simp only [size_put]; omega)) [put_none, getT_put, getT_put_ne]; done) | (right; simp (disch := first | omega | (simp only [size_put]; omega)) [put_none, getT_put, getT_put_ne]; done)))))); refine ops_nil (SC.wp_cond (t := false) (by simp (disch := first | omega | (simp only [size_put]; omega)) [eval_tmp, eval_const, put_none, getT_put, getT_put_ne]) ?_); rw [if_neg (by simp)])
    (refine SC.wp_seq (SC.wp_reg ?_); (repeat (first | (apply ops_1; (focus (simp (disch := first | omega | (simp only [size_put]; omega)) [qv, qcall, vop, iop, eval_tmp, eval_const, put_none, getT_put, getT_put_ne]; try rfl))) | (apply ops_y; (focus rfl); (focus (first | omega | (simp only [size_put]; omega))); (focus (simp (disch := first | omega | (simp only [size_put]; omega)) [put_none, getT_put, getT_put_ne]; done)); (focus (simp (disch := first | omega | (simp only [size_put]; omega)) [qv, qcall, vop, iop, eval_tmp, eval_const, put_none, getT_put, getT_put_ne]; try rfl))) | (apply ops_n; (focus rfl); (focus (first | omega | (simp only [size_put]; omega))); (focus (first | (left; simp (disch := first | omega | (simp only [size_put]; omega)) [put_none, getT_put, getT_put_ne]; done) | (right; simp (disch := first | omega | (simp only [size_put]; omega)) [put_none, getT_put, getT_put_ne]; done)))))); refine ops_nil (SC.wp_cond (t := true) (by simp (disch := first | omega | (simp only [size_put]; omega)) [eval_tmp, eval_const, put_none, getT_put, getT_put_ne]) ?_); rw [if_pos rfl])
    refine SC.wp_seq (SC.wp_reg ?_)
    have hr5 : rangeV w1 w.heap.size 0 5 = some [.int .i64 n, .slice sb s.length sc, .bool tnull, .slice lb l.length lc, .slice ub u.length uc] := by simp [rangeV, hc]
    iterate 4 (first | (apply ops_1; (focus (simp (disch := first | omega | (simp only [size_put]; omega)) [qv, qcall, vop, iop, eval_tmp, eval_const, put_none, getT_put, getT_put_ne, hst, h1, h3, h4, hr5]; try rfl))) | (apply ops_y; (focus rfl); (focus (first | omega | (simp only [size_put]; omega))); (focus (simp (disch := first | omega | (simp only [size_put]; omega)) [put_none, getT_put, getT_put_ne, hst, h1, h3, h4, hr5]; done)); (focus (simp (disch := first | omega | (simp only [size_put]; omega)) [qv, qcall, vop, iop, eval_tmp, eval_const, put_none, getT_put, getT_put_ne, hst, h1, h3, h4, hr5]; try rfl))) | (apply ops_n; (focus rfl); (focus (first | omega | (simp only [size_put]; omega))); (focus (first | (left; simp (disch := first | omega | (simp only [size_put]; omega)) [put_none, getT_put, getT_put_ne, hst, h1, h3, h4, hr5]; done) | (right; simp (disch := first | omega | (simp only [size_put]; omega)) [put_none, getT_put, getT_put_ne]; done)))))
    have hfv : FsV w1 (· < w1.heap.size) fs sub := FsV.down q2 hsz1 hsub
    have htv := TV.down q2 hsz1 ht0
    refine ops_call oP (cP w1 sub ver flex _ _ hfv htv (by simpa [wTy] using hl)) (by simp (disch := first | omega | (simp only [size_put]; omega)) [eval_tmp, eval_const, put_none, getT_put, getT_put_ne, h1, h3, h4]; rfl) ?_
    rintro e w2 ⟨v, rfl, r1, r2⟩
    refine ⟨v, rfl, ?_⟩
    repeat (first | (apply ops_1; (focus (simp (disch := first | omega | (simp only [size_put]; omega)) [qv, qcall, vop, iop, eval_tmp, eval_const, put_none, getT_put, getT_put_ne]; try rfl))) | (apply ops_y; (focus rfl); (focus (first | omega | (simp only [size_put]; omega))); (focus (simp (disch := first | omega | (simp only [size_put]; omega)) [put_none, getT_put, getT_put_ne]; done)); (focus (simp (disch := first | omega | (simp only [size_put]; omega)) [qv, qcall, vop, iop, eval_tmp, eval_const, put_none, getT_put, getT_put_ne]; try rfl))) | (apply ops_n; (focus rfl); (focus (first | omega | (simp only [size_put]; omega))); (focus (first | (left; simp (disch := first | omega | (simp only [size_put]; omega)) [put_none, getT_put, getT_put_ne]; done) | (right; simp (disch := first | omega | (simp only [size_put]; omega)) [put_none, getT_put, getT_put_ne]; done)))))
    refine ops_nil (SC.wp_ret ?_)
    simp only [Exit.then, Exit.inBlock]
    refine fin _ _ _ v (by simp [defers_put, hd]) (by simp (disch := first | omega | (simp only [size_put]; omega)) [eval_tmp, eval_const, put_none, getT_put, getT_put_ne]) (own_down r1 hsz1) (q2.trans (r2.mono hsz1)) (by simp [wTy, Tree.l, Tree.u])
  | prim k =>
    have hBs : BytesAt w1 (· < w1.heap.size) sb s := bytesAt_mono hs1 (fun k hk => Nat.lt_of_lt_of_le hk hsz1) (fun k hk => q2.block k hk)
    have nums : ∀ (a : Act) (kd : Int), a.tmps.size = 70 → a.defers = [] → getT a 11 = .pointer (some ⟨w.heap.size, 0, none⟩) → getT a 0 = .int .i64 kd → widthOf kd ≤ 8 → fixed n (widthOf kd) = wTy ver flex (.prim k) null (.mk n s tnull l u) →
        SC.wp P (.seq (.dreg [fa 65 X.T 11 0, ld 66 X.I64 65, mv 67 0, cal 68 fWi [67], cal 69 fF [66, 68], asg 12 69] [[], [0], [], [2], [1, 3, 3], [4, 4, 0, 1, 2, 3, 4]]) .ret) (bodyPost P fn (RetOwn X.U8 w (wTy ver flex (.prim k) null (.mk n s tnull l u)))) a w1 := by
      intro a kd p1 p2 p3 p4 p5 p6
      refine SC.wp_seq (SC.wp_dreg hm (Below w1.heap.size w1.drew) [(0, true), (1, true), (2, true), (3, false), (4, false), (5, true)] (by rfl) (by rfl) (by decide) (Below.refl _ _) ?_)
      have hlt : w.heap.size < w1.heap.size := by omega
      have hcd : ∀ j, w1.drew.cell? ⟨w.heap.size, j, none⟩ = #[Value.int .i64 n, .slice sb s.length sc, .bool tnull, .slice lb l.length lc, .slice ub u.length uc][j]? := hc
      repeat (first | (apply dr_1; (focus rfl); (focus (simp (disch := first | omega | (simp only [size_put]; omega)) [qv, qcall, vop, iop, eval_tmp, eval_const, put_none, getT_put, getT_put_ne, hst, p3, p4, hlt, hcd]; try rfl))) | (apply dr_y; (focus rfl); (focus rfl); (focus (first | omega | (simp only [size_put]; omega))); (focus (simp (disch := first | omega | (simp only [size_put]; omega)) [put_none, getT_put, getT_put_ne, hst, p3, p4, hlt, hcd]; done)); (focus (simp (disch := first | omega | (simp only [size_put]; omega)) [qv, qcall, vop, iop, eval_tmp, eval_const, put_none, getT_put, getT_put_ne, hst, p3, p4, hlt, hcd]; try rfl))) | (apply dr_n; (focus rfl); (focus rfl); (focus (first | omega | (simp only [size_put]; omega))); (focus (first | (left; simp (disch := first | omega | (simp only [size_put]; omega)) [put_none, getT_put, getT_put_ne, hst, p3, p4, hlt, hcd]; done) | (right; simp (disch := first | omega | (simp only [size_put]; omega)) [put_none, getT_put, getT_put_ne]; done)))))
      refine dreg_n rfl rfl ?_
      obtain ⟨fn1, g1, g2, g3⟩ := S.oWi
      refine opw_call g1 g2 g3 (R := fun e w' => e = .returned (.int .i64 (widthOf kd : Int)) ∧ w1.drew = w') ?_ ?_
      · refine Eq.mp (congrArg (fun z => Calls P fWi z w1.drew _) ?_) (S.cWi w1.drew kd)
        simp (disch := first | omega | (simp only [size_put]; omega)) [eval_tmp, eval_const, put_none, getT_put, getT_put_ne, p4]
      rintro e w2 ⟨rfl, rfl⟩
      refine ⟨_, rfl, Below.refl _ _, ?_⟩
      refine dreg_n rfl rfl ?_
      obtain ⟨fn1, g1, g2, g3⟩ := S.oF
      refine opw_call g1 g2 g3 (R := RetOwn X.U8 w1.drew (fixed n (widthOf kd))) ?_ ?_
      · refine Eq.mp (congrArg (fun z => Calls P fF z w1.drew _) ?_) (S.cF w1.drew n (widthOf kd) p5)
        simp (disch := first | omega | (simp only [size_put]; omega)) [eval_tmp, eval_const, put_none, getT_put, getT_put_ne]
      rintro e w2 ⟨v, rfl, r1, r2⟩
      refine ⟨v, rfl, r2, ?_⟩
      repeat (first | (apply dr_1; (focus rfl); (focus (simp (disch := first | omega | (simp only [size_put]; omega)) [qv, qcall, vop, iop, eval_tmp, eval_const, put_none, getT_put, getT_put_ne]; try rfl))) | (apply dr_y; (focus rfl); (focus rfl); (focus (first | omega | (simp only [size_put]; omega))); (focus (simp (disch := first | omega | (simp only [size_put]; omega)) [put_none, getT_put, getT_put_ne]; done)); (focus (simp (disch := first | omega | (simp only [size_put]; omega)) [qv, qcall, vop, iop, eval_tmp, eval_const, put_none, getT_put, getT_put_ne]; try rfl))) | (apply dr_n; (focus rfl); (focus rfl); (focus (first | omega | (simp only [size_put]; omega))); (focus (first | (left; simp (disch := first | omega | (simp only [size_put]; omega)) [put_none, getT_put, getT_put_ne]; done) | (right; simp (disch := first | omega | (simp only [size_put]; omega)) [put_none, getT_put, getT_put_ne]; done)))))
      refine dreg_nil ?_
      simp only [Exit.then]
      refine SC.wp_ret ?_
      refine fin _ _ _ v (by simp [defers_put, p2]) (by simp (disch := first | omega | (simp only [size_put]; omega)) [eval_tmp, eval_const, put_none, getT_put, getT_put_ne]) (own_down r1 hsz1) (q2.drew.trans (r2.mono hsz1)) p6
    cases k with
    | i8 =>
      simp only [kindOf] at h0 ⊢
      iterate 4 (refine SC.wp_seq (SC.wp_reg ?_); (repeat (first | (apply ops_1; (focus (simp (disch := first | omega | (simp only [size_put]; omega)) [qv, qcall, vop, iop, eval_tmp, eval_const, put_none, getT_put, getT_put_ne]; try rfl))) | (apply ops_y; (focus rfl); (focus (first | omega | (simp only [size_put]; omega))); (focus (simp (disch := first | omega | (simp only [size_put]; omega)) [put_none, getT_put, getT_put_ne]; done)); (focus (simp (disch := first | omega | (simp only [size_put]; omega)) [qv, qcall, vop, iop, eval_tmp, eval_const, put_none, getT_put, getT_put_ne]; try rfl))) | (apply ops_n; (focus rfl); (focus (first | omega | (simp only [size_put]; omega))); (focus (first | (left; simp (disch := first | omega | (simp only [size_put]; omega)) [put_none, getT_put, getT_put_ne]; done) | (right; simp (disch := first | omega | (simp only [size_put]; omega)) [put_none, getT_put, getT_put_ne]; done)))))); refine ops_nil (SC.wp_cond (t := false) (by simp (disch := first | omega | (simp only [size_put]; omega)) [eval_tmp, eval_const, put_none, getT_put, getT_put_ne]) ?_); rw [if_neg (by simp)])
      refine SC.wp_seq (SC.wp_reg ?_)
      repeat (first | (apply ops_1; (focus (simp (disch := first | omega | (simp only [size_put]; omega)) [qv, qcall, vop, iop, eval_tmp, eval_const, put_none, getT_put, getT_put_ne]; try rfl))) | (apply ops_y; (focus rfl); (focus (first | omega | (simp only [size_put]; omega))); (focus (simp (disch := first | omega | (simp only [size_put]; omega)) [put_none, getT_put, getT_put_ne]; done)); (focus (simp (disch := first | omega | (simp only [size_put]; omega)) [qv, qcall, vop, iop, eval_tmp, eval_const, put_none, getT_put, getT_put_ne]; try rfl))) | (apply ops_n; (focus rfl); (focus (first | omega | (simp only [size_put]; omega))); (focus (first | (left; simp (disch := first | omega | (simp only [size_put]; omega)) [put_none, getT_put, getT_put_ne]; done) | (right; simp (disch := first | omega | (simp only [size_put]; omega)) [put_none, getT_put, getT_put_ne]; done)))))
      refine ops_nil (SC.wp_cond (t := false) (by simp (disch := first | omega | (simp only [size_put]; omega)) [eval_tmp, eval_const, put_none, getT_put, getT_put_ne]) ?_)
      rw [if_neg (by simp)]
      refine SC.wp_skip ?_
      simp only [Exit.then, Exit.inBlock]
      exact nums _ 1 (by simp [size_put, hs]) (by simp [defers_put, hd]) (by simp (disch := first | omega | (simp only [size_put]; omega)) [eval_tmp, eval_const, put_none, getT_put, getT_put_ne]) (by simp (disch := first | omega | (simp only [size_put]; omega)) [eval_tmp, eval_const, put_none, getT_put, getT_put_ne, h0]) (by decide) (by simp only [wTy, wPrim]; rfl)
    | i16 =>
      simp only [kindOf] at h0 ⊢
      iterate 4 (refine SC.wp_seq (SC.wp_reg ?_); (repeat (first | (apply ops_1; (focus (simp (disch := first | omega | (simp only [size_put]; omega)) [qv, qcall, vop, iop, eval_tmp, eval_const, put_none, getT_put, getT_put_ne]; try rfl))) | (apply ops_y; (focus rfl); (focus (first | omega | (simp only [size_put]; omega))); (focus (simp (disch := first | omega | (simp only [size_put]; omega)) [put_none, getT_put, getT_put_ne]; done)); (focus (simp (disch := first | omega | (simp only [size_put]; omega)) [qv, qcall, vop, iop, eval_tmp, eval_const, put_none, getT_put, getT_put_ne]; try rfl))) | (apply ops_n; (focus rfl); (focus (first | omega | (simp only [size_put]; omega))); (focus (first | (left; simp (disch := first | omega | (simp only [size_put]; omega)) [put_none, getT_put, getT_put_ne]; done) | (right; simp (disch := first | omega | (simp only [size_put]; omega)) [put_none, getT_put, getT_put_ne]; done)))))); refine ops_nil (SC.wp_cond (t := false) (by simp (disch := first | omega | (simp only [size_put]; omega)) [eval_tmp, eval_const, put_none, getT_put, getT_put_ne]) ?_); rw [if_neg (by simp)])
      refine SC.wp_seq (SC.wp_reg ?_)
      repeat (first | (apply ops_1; (focus (simp (disch := first | omega | (simp only [size_put]; omega)) [qv, qcall, vop, iop, eval_tmp, eval_const, put_none, getT_put, getT_put_ne]; try rfl))) | (apply ops_y; (focus rfl); (focus (first | omega | (simp only [size_put]; omega))); (focus (simp (disch := first | omega | (simp only [size_put]; omega)) [put_none, getT_put, getT_put_ne]; done)); (focus (simp (disch := first | omega | (simp only [size_put]; omega)) [qv, qcall, vop, iop, eval_tmp, eval_const, put_none, getT_put, getT_put_ne]; try rfl))) | (apply ops_n; (focus rfl); (focus (first | omega | (simp only [size_put]; omega))); (focus (first | (left; simp (disch := first | omega | (simp only [size_put]; omega)) [put_none, getT_put, getT_put_ne]; done) | (right; simp (disch := first | omega | (simp only [size_put]; omega)) [put_none, getT_put, getT_put_ne]; done)))))
      refine ops_nil (SC.wp_cond (t := false) (by simp (disch := first | omega | (simp only [size_put]; omega)) [eval_tmp, eval_const, put_none, getT_put, getT_put_ne]) ?_)
      rw [if_neg (by simp)]
      refine SC.wp_skip ?_
      simp only [Exit.then, Exit.inBlock]
      exact nums _ 2 (by simp [size_put, hs]) (by simp [defers_put, hd]) (by simp (disch := first | omega | (simp only [size_put]; omega)) [eval_tmp, eval_const, put_none, getT_put, getT_put_ne]) (by simp (disch := first | omega | (simp only [size_put]; omega)) [eval_tmp, eval_const, put_none, getT_put, getT_put_ne, h0]) (by decide) (by simp only [wTy, wPrim]; rfl)
    | i32 =>
      simp only [kindOf] at h0 ⊢
      iterate 4 (refine SC.wp_seq (SC.wp_reg ?_); (repeat (first | (apply ops_1; (focus (simp (disch := first | omega | (simp only [size_put]; omega)) [qv, qcall, vop, iop, eval_tmp, eval_const, put_none, getT_put, getT_put_ne]; try rfl))) | (apply ops_y; (focus rfl); (focus (first | omega | (simp only [size_put]; omega))); (focus (simp (disch := first | omega | (simp only [size_put]; omega)) [put_none, getT_put, getT_put_ne]; done)); (focus (simp (disch := first | omega | (simp only [size_put]; omega)) [qv, qcall, vop, iop, eval_tmp, eval_const, put_none, getT_put, getT_put_ne]; try rfl))) | (apply ops_n; (focus rfl); (focus (first | omega | (simp only [size_put]; omega))); (focus (first | (left; simp (disch := first | omega | (simp only [size_put]; omega)) [put_none, getT_put, getT_put_ne]; done) | (right; simp (disch := first | omega | (simp only [size_put]; omega)) [put_none, getT_put, getT_put_ne]; done)))))); refine ops_nil (SC.wp_cond (t := false) (by simp (disch := first | omega | (simp only [size_put]; omega)) [eval_tmp, eval_const, put_none, getT_put, getT_put_ne]) ?_); rw [if_neg (by simp)])
      refine SC.wp_seq (SC.wp_reg ?_)
      repeat (first | (apply ops_1; (focus (simp (disch := first | omega | (simp only [size_put]; omega)) [qv, qcall, vop, iop, eval_tmp, eval_const, put_none, getT_put, getT_put_ne]; try rfl))) | (apply ops_y; (focus rfl); (focus (first | omega | (simp only [size_put]; omega))); (focus (simp (disch := first | omega | (simp only [size_put]; omega)) [put_none, getT_put, getT_put_ne]; done)); (focus (simp (disch := first | omega | (simp only [size_put]; omega)) [qv, qcall, vop, iop, eval_tmp, eval_const, put_none, getT_put, getT_put_ne]; try rfl))) | (apply ops_n; (focus rfl); (focus (first | omega | (simp only [size_put]; omega))); (focus (first | (left; simp (disch := first | omega | (simp only [size_put]; omega)) [put_none, getT_put, getT_put_ne]; done) | (right; simp (disch := first | omega | (simp only [size_put]; omega)) [put_none, getT_put, getT_put_ne]; done)))))
      refine ops_nil (SC.wp_cond (t := false) (by simp (disch := first | omega | (simp only [size_put]; omega)) [eval_tmp, eval_const, put_none, getT_put, getT_put_ne]) ?_)
      rw [if_neg (by simp)]
      refine SC.wp_skip ?_
      simp only [Exit.then, Exit.inBlock]
      exact nums _ 3 (by simp [size_put, hs]) (by simp [defers_put, hd]) (by simp (disch := first | omega | (simp only [size_put]; omega)) [eval_tmp, eval_const, put_none, getT_put, getT_put_ne]) (by simp (disch := first | omega | (simp only [size_put]; omega)) [eval_tmp, eval_const, put_none, getT_put, getT_put_ne, h0]) (by decide) (by simp only [wTy, wPrim]; rfl)
    | i64 =>
      simp only [kindOf] at h0 ⊢
      iterate 4 (refine SC.wp_seq (SC.wp_reg ?_); (repeat (first | (apply ops_1; (focus (simp (disch := first | omega | (simp only [size_put]; omega)) [qv, qcall, vop, iop, eval_tmp, eval_const, put_none, getT_put, getT_put_ne]; try rfl))) | (apply ops_y; (focus rfl); (focus (first | omega | (simp only [size_put]; omega))); (focus (simp (disch := first | omega | (simp only [size_put]; omega)) [put_none, getT_put, getT_put_ne]; done)); (focus (simp (disch := first | omega | (simp only [size_put]; omega)) [qv, qcall, vop, iop, eval_tmp, eval_const, put_none, getT_put, getT_put_ne]; try rfl))) | (apply ops_n; (focus rfl); (focus (first | omega | (simp only [size_put]; omega))); (focus (first | (left; simp (disch := first | omega | (simp only [size_put]; omega)) [put_none, getT_put, getT_put_ne]; done) | (right; simp (disch := first | omega | (simp only [size_put]; omega)) [put_none, getT_put, getT_put_ne]; done)))))); refine ops_nil (SC.wp_cond (t := false) (by simp (disch := first | omega | (simp only [size_put]; omega)) [eval_tmp, eval_const, put_none, getT_put, getT_put_ne]) ?_); rw [if_neg (by simp)])
      refine SC.wp_seq (SC.wp_reg ?_)
      repeat (first | (apply ops_1; (focus (simp (disch := first | omega | (simp only [size_put]; omega)) [qv, qcall, vop, iop, eval_tmp, eval_const, put_none, getT_put, getT_put_ne]; try rfl))) | (apply ops_y; (focus rfl); (focus (first | omega | (simp only [size_put]; omega))); (focus (simp (disch := first | omega | (simp only [size_put]; omega)) [put_none, getT_put, getT_put_ne]; done)); (focus (simp (disch := first | omega | (simp only [size_put]; omega)) [qv, qcall, vop, iop, eval_tmp, eval_const, put_none, getT_put, getT_put_ne]; try rfl))) | (apply ops_n; (focus rfl); (focus (first | omega | (simp only [size_put]; omega))); (focus (first | (left; simp (disch := first | omega | (simp only [size_put]; omega)) [put_none, getT_put, getT_put_ne]; done) | (right; simp (disch := first | omega | (simp only [size_put]; omega)) [put_none, getT_put, getT_put_ne]; done)))))
      refine ops_nil (SC.wp_cond (t := false) (by simp (disch := first | omega | (simp only [size_put]; omega)) [eval_tmp, eval_const, put_none, getT_put, getT_put_ne]) ?_)
      rw [if_neg (by simp)]
      refine SC.wp_skip ?_
      simp only [Exit.then, Exit.inBlock]
      exact nums _ 4 (by simp [size_put, hs]) (by simp [defers_put, hd]) (by simp (disch := first | omega | (simp only [size_put]; omega)) [eval_tmp, eval_const, put_none, getT_put, getT_put_ne]) (by simp (disch := first | omega | (simp only [size_put]; omega)) [eval_tmp, eval_const, put_none, getT_put, getT_put_ne, h0]) (by decide) (by simp only [wTy, wPrim]; rfl)
    | u16 =>
      simp only [kindOf] at h0 ⊢
      iterate 4 (refine SC.wp_seq (SC.wp_reg ?_); (repeat (first | (apply ops_1; (focus (simp (disch := first | omega | (simp only [size_put]; omega)) [qv, qcall, vop, iop, eval_tmp, eval_const, put_none, getT_put, getT_put_ne]; try rfl))) | (apply ops_y; (focus rfl); (focus (first | omega | (simp only [size_put]; omega))); (focus (simp (disch := first | omega | (simp only [size_put]; omega)) [put_none, getT_put, getT_put_ne]; done)); (focus (simp (disch := first | omega | (simp only [size_put]; omega)) [qv, qcall, vop, iop, eval_tmp, eval_const, put_none, getT_put, getT_put_ne]; try rfl))) | (apply ops_n; (focus rfl); (focus (first | omega | (simp only [size_put]; omega))); (focus (first | (left; simp (disch := first | omega | (simp only [size_put]; omega)) [put_none, getT_put, getT_put_ne]; done) | (right; simp (disch := first | omega | (simp only [size_put]; omega)) [put_none, getT_put, getT_put_ne]; done)))))); refine ops_nil (SC.wp_cond (t := false) (by simp (disch := first | omega | (simp only [size_put]; omega)) [eval_tmp, eval_const, put_none, getT_put, getT_put_ne]) ?_); rw [if_neg (by simp)])
      refine SC.wp_seq (SC.wp_reg ?_)
      repeat (first | (apply ops_1; (focus (simp (disch := first | omega | (simp only [size_put]; omega)) [qv, qcall, vop, iop, eval_tmp, eval_const, put_none, getT_put, getT_put_ne]; try rfl))) | (apply ops_y; (focus rfl); (focus (first | omega | (simp only [size_put]; omega))); (focus (simp (disch := first | omega | (simp only [size_put]; omega)) [put_none, getT_put, getT_put_ne]; done)); (focus (simp (disch := first | omega | (simp only [size_put]; omega)) [qv, qcall, vop, iop, eval_tmp, eval_const, put_none, getT_put, getT_put_ne]; try rfl))) | (apply ops_n; (focus rfl); (focus (first | omega | (simp only [size_put]; omega))); (focus (first | (left; simp (disch := first | omega | (simp only [size_put]; omega)) [put_none, getT_put, getT_put_ne]; done) | (right; simp (disch := first | omega | (simp only [size_put]; omega)) [put_none, getT_put, getT_put_ne]; done)))))
      refine ops_nil (SC.wp_cond (t := false) (by simp (disch := first | omega | (simp only [size_put]; omega)) [eval_tmp, eval_const, put_none, getT_put, getT_put_ne]) ?_)
      rw [if_neg (by simp)]
      refine SC.wp_skip ?_
      simp only [Exit.then, Exit.inBlock]
      exact nums _ 5 (by simp [size_put, hs]) (by simp [defers_put, hd]) (by simp (disch := first | omega | (simp only [size_put]; omega)) [eval_tmp, eval_const, put_none, getT_put, getT_put_ne]) (by simp (disch := first | omega | (simp only [size_put]; omega)) [eval_tmp, eval_const, put_none, getT_put, getT_put_ne, h0]) (by decide) (by simp only [wTy, wPrim]; rfl)
    | bool =>
      simp only [kindOf] at h0 ⊢
      (refine SC.wp_seq (SC.wp_reg ?_); (repeat (first | (apply ops_1; (focus (simp (disch := first | omega | (simp only [size_put]; omega)) [qv, qcall, vop, iop, eval_tmp, eval_const, put_none, getT_put, getT_put_ne]; try rfl))) | (apply ops_y; (focus rfl); (focus (first | omega | (simp only [size_put]; omega))); (focus (simp (disch := first | omega | (simp only [size_put]; omega)) [put_none, getT_put, getT_put_ne]; done)); (focus (simp (disch := first | omega | (simp only [size_put]; omega)) [qv, qcall, vop, iop, eval_tmp, eval_const, put_none, getT_put, getT_put_ne]; try rfl))) | (apply ops_n; (focus rfl); (focus (first | omega | (simp only [size_put]; omega))); (focus (first | (left; simp (disch := first | omega | (simp only [size_put]; omega)) [put_none, getT_put, getT_put_ne]; done) | (right; simp (disch := first | omega | (simp only [size_put]; omega)) [put_none, getT_put, getT_put_ne]; done)))))); refine ops_nil (SC.wp_cond (t := true) (by simp (disch := first | omega | (simp only [size_put]; omega)) [eval_tmp, eval_const, put_none, getT_put, getT_put_ne]) ?_); rw [if_pos rfl])
      refine SC.wp_seq (SC.wp_reg ?_)
      iterate 2 (first | (apply ops_1; (focus (simp (disch := first | omega | (simp only [size_put]; omega)) [qv, qcall, vop, iop, eval_tmp, eval_const, put_none, getT_put, getT_put_ne, hst, hc]; try rfl))) | (apply ops_y; (focus rfl); (focus (first | omega | (simp only [size_put]; omega))); (focus (simp (disch := first | omega | (simp only [size_put]; omega)) [put_none, getT_put, getT_put_ne, hst, hc]; done)); (focus (simp (disch := first | omega | (simp only [size_put]; omega)) [qv, qcall, vop, iop, eval_tmp, eval_const, put_none, getT_put, getT_put_ne, hst, hc]; try rfl))) | (apply ops_n; (focus rfl); (focus (first | omega | (simp only [size_put]; omega))); (focus (first | (left; simp (disch := first | omega | (simp only [size_put]; omega)) [put_none, getT_put, getT_put_ne, hst, hc]; done) | (right; simp (disch := first | omega | (simp only [size_put]; omega)) [put_none, getT_put, getT_put_ne]; done)))))
      refine opsw_none rfl (opw_andOne (m := n) (by simp (disch := first | omega | (simp only [size_put]; omega)) [eval_tmp, eval_const, put_none, getT_put, getT_put_ne]) ?_)
      have e2 : (n % 2) % 256 = n % 2 := by omega
      iterate 1 (first | (apply ops_1; (focus (simp (disch := first | omega | (simp only [size_put]; omega)) [qv, qcall, vop, iop, eval_tmp, eval_const, put_none, getT_put, getT_put_ne, hst, wrap_u8, e2]; try rfl))) | (apply ops_y; (focus rfl); (focus (first | omega | (simp only [size_put]; omega))); (focus (simp (disch := first | omega | (simp only [size_put]; omega)) [put_none, getT_put, getT_put_ne, hst, wrap_u8, e2]; done)); (focus (simp (disch := first | omega | (simp only [size_put]; omega)) [qv, qcall, vop, iop, eval_tmp, eval_const, put_none, getT_put, getT_put_ne, hst, wrap_u8, e2]; try rfl))) | (apply ops_n; (focus rfl); (focus (first | omega | (simp only [size_put]; omega))); (focus (first | (left; simp (disch := first | omega | (simp only [size_put]; omega)) [put_none, getT_put, getT_put_ne, hst, wrap_u8, e2]; done) | (right; simp (disch := first | omega | (simp only [size_put]; omega)) [put_none, getT_put, getT_put_ne]; done)))))
      refine ops_u8lit (B := w.heap.size) (bs := [T.byteOf (n % 2)]) hU8s rfl (by decide) (by decide) ?_ hsz1 ?_
      · simp only [cellsOf, List.map_cons, List.map_nil]
        rw [byteOf_cell, e2]
        simp (disch := first | omega | (simp only [size_put]; omega)) [eval_tmp, eval_const, put_none, getT_put, getT_put_ne, List.range']
      intro v w2 r1 r2
      repeat (first | (apply ops_1; (focus (simp (disch := first | omega | (simp only [size_put]; omega)) [qv, qcall, vop, iop, eval_tmp, eval_const, put_none, getT_put, getT_put_ne]; try rfl))) | (apply ops_y; (focus rfl); (focus (first | omega | (simp only [size_put]; omega))); (focus (simp (disch := first | omega | (simp only [size_put]; omega)) [put_none, getT_put, getT_put_ne]; done)); (focus (simp (disch := first | omega | (simp only [size_put]; omega)) [qv, qcall, vop, iop, eval_tmp, eval_const, put_none, getT_put, getT_put_ne]; try rfl))) | (apply ops_n; (focus rfl); (focus (first | omega | (simp only [size_put]; omega))); (focus (first | (left; simp (disch := first | omega | (simp only [size_put]; omega)) [put_none, getT_put, getT_put_ne]; done) | (right; simp (disch := first | omega | (simp only [size_put]; omega)) [put_none, getT_put, getT_put_ne]; done)))))
      refine ops_nil (SC.wp_ret ?_)
      simp only [Exit.then, Exit.inBlock]
      exact fin _ _ _ v (by simp [defers_put, hd]) (by simp (disch := first | omega | (simp only [size_put]; omega)) [eval_tmp, eval_const, put_none, getT_put, getT_put_ne]) r1 (q2.trans r2) (by simp [wTy, wPrim, Tree.n])
    | uuid =>
      simp only [kindOf] at h0 ⊢
      iterate 1 (refine SC.wp_seq (SC.wp_reg ?_); (repeat (first | (apply ops_1; (focus (simp (disch := first | omega | (simp only [size_put]; omega)) [qv, qcall, vop, iop, eval_tmp, eval_const, put_none, getT_put, getT_put_ne]; try rfl))) | (apply ops_y; (focus rfl); (focus (first | omega | (simp only [size_put]; omega))); (focus (simp (disch := first | omega | (simp only [size_put]; omega)) [put_none, getT_put, getT_put_ne]; done)); (focus (simp (disch := first | omega | (simp only [size_put]; omega)) [qv, qcall, vop, iop, eval_tmp, eval_const, put_none, getT_put, getT_put_ne]; try rfl))) | (apply ops_n; (focus rfl); (focus (first | omega | (simp only [size_put]; omega))); (focus (first | (left; simp (disch := first | omega | (simp only [size_put]; omega)) [put_none, getT_put, getT_put_ne]; done) | (right; simp (disch := first | omega | (simp only [size_put]; omega)) [put_none, getT_put, getT_put_ne]; done)))))); refine ops_nil (SC.wp_cond (t := false) (by simp (disch := first | omega | (simp only [size_put]; omega)) [eval_tmp, eval_const, put_none, getT_put, getT_put_ne]) ?_); rw [if_neg (by simp)])
      (refine SC.wp_seq (SC.wp_reg ?_); (repeat (first | (apply ops_1; (focus (simp (disch := first | omega | (simp only [size_put]; omega)) [qv, qcall, vop, iop, eval_tmp, eval_const, put_none, getT_put, getT_put_ne]; try rfl))) | (apply ops_y; (focus rfl); (focus (first | omega | (simp only [size_put]; omega))); (focus (simp (disch := first | omega | (simp only [size_put]; omega)) [put_none, getT_put, getT_put_ne]; done)); (focus (simp (disch := first | omega | (simp only [size_put]; omega)) [qv, qcall, vop, iop, eval_tmp, eval_const, put_none, getT_put, getT_put_ne]; try rfl))) | (apply ops_n; (focus rfl); (focus (first | omega | (simp only [size_put]; omega))); (focus (first | (left; simp (disch := first | omega | (simp only [size_put]; omega)) [put_none, getT_put, getT_put_ne]; done) | (right; simp (disch := first | omega | (simp only [size_put]; omega)) [put_none, getT_put, getT_put_ne]; done)))))); refine ops_nil (SC.wp_cond (t := true) (by simp (disch := first | omega | (simp only [size_put]; omega)) [eval_tmp, eval_const, put_none, getT_put, getT_put_ne]) ?_); rw [if_pos rfl])
      refine SC.wp_seq (SC.wp_reg ?_)
      refine opsw_none rfl (opw_mkU8s (n := 16) hU8s rfl rfl (by decide) fun w2 hw2 => ?_)
      repeat (first | (apply ops_1; (focus (simp (disch := first | omega | (simp only [size_put]; omega)) [qv, qcall, vop, iop, eval_tmp, eval_const, put_none, getT_put, getT_put_ne]; try rfl))) | (apply ops_y; (focus rfl); (focus (first | omega | (simp only [size_put]; omega))); (focus (simp (disch := first | omega | (simp only [size_put]; omega)) [put_none, getT_put, getT_put_ne]; done)); (focus (simp (disch := first | omega | (simp only [size_put]; omega)) [qv, qcall, vop, iop, eval_tmp, eval_const, put_none, getT_put, getT_put_ne]; try rfl))) | (apply ops_n; (focus rfl); (focus (first | omega | (simp only [size_put]; omega))); (focus (first | (left; simp (disch := first | omega | (simp only [size_put]; omega)) [put_none, getT_put, getT_put_ne]; done) | (right; simp (disch := first | omega | (simp only [size_put]; omega)) [put_none, getT_put, getT_put_ne]; done)))))
      refine ops_nil (SC.wp_seq (SC.wp_reg ?_))
      have hnew : w2.heap[w1.heap.size]? = some (.cells (madeCells #[.int .u8 0] (16 * 1)) X.U8 (0, 0)) := by rw [hw2]; exact heap_alloc_new w1 _
      have hb2 : Below w.heap.size w w2 := by rw [hw2]; exact q2.alloc hsz1 _
      have hold : ∀ k, k < w1.heap.size → w2.heap[k]? = w1.heap[k]? := fun k hk => by rw [hw2]; exact Below.heap_alloc w1 _ k hk
      have hc2 : ∀ j, w2.cell? ⟨w.heap.size, j, none⟩ = #[Value.int .i64 n, .slice sb s.length sc, .bool tnull, .slice lb l.length lc, .slice ub u.length uc][j]? := fun j => by
        rw [World.cell?_of_block (a := ⟨w.heap.size, j, none⟩) (hold w.heap.size (by omega))]; exact hc j
      clear hw2
      iterate 3 (first | (apply ops_1; (focus (simp (disch := first | omega | (simp only [size_put]; omega)) [qv, qcall, vop, iop, eval_tmp, eval_const, put_none, getT_put, getT_put_ne, hst, hc2]; try rfl))) | (apply ops_y; (focus rfl); (focus (first | omega | (simp only [size_put]; omega))); (focus (simp (disch := first | omega | (simp only [size_put]; omega)) [put_none, getT_put, getT_put_ne, hst, hc2]; done)); (focus (simp (disch := first | omega | (simp only [size_put]; omega)) [qv, qcall, vop, iop, eval_tmp, eval_const, put_none, getT_put, getT_put_ne, hst, hc2]; try rfl))) | (apply ops_n; (focus rfl); (focus (first | omega | (simp only [size_put]; omega))); (focus (first | (left; simp (disch := first | omega | (simp only [size_put]; omega)) [put_none, getT_put, getT_put_ne, hst, hc2]; done) | (right; simp (disch := first | omega | (simp only [size_put]; omega)) [put_none, getT_put, getT_put_ne]; done)))))
      have hB2 : BytesAt w2 (· < w1.heap.size) sb s := bytesAt_mono hBs (fun _ h => h) hold
      obtain ⟨hu8, i8, hi8, hz8, hs8, hby8⟩ := u8s_of hU8s
      have hsize8 : (P.info? X.U8).map (·.size) = some 1 := by rw [hi8]; simp [hs8]
      have hmade : (madeCells #[Value.int .u8 0] (16 * 1)).toList = List.replicate 16 (Value.int .u8 0) := by simp [madeCells, List.range, List.range.loop, Array.range, List.replicate]
      have hcopy : ∃ (k : Int) (w3 : World), (∀ ty, (Builtin.copy_ #[X.Bs, X.Bs] ty #[.slice (some ⟨w1.heap.size, 0, none⟩) 16 16, .slice sb s.length sc]).run P w2 = .ok (.int .i64 k) w3) ∧ Below w.heap.size w w3 ∧ Own X.U8 w3 w.heap.size (.slice (some ⟨w1.heap.size, 0, none⟩) 16 16) (uuidOf (.mk n s tnull l u)) := by
        have own : ∀ (w3 : World) (cells : List Value), w3.heap[w1.heap.size]? = some (.cells cells.toArray X.U8 (0, 0)) → cells = cellsOf (uuidOf (.mk n s tnull l u)) → Own X.U8 w3 w.heap.size (.slice (some ⟨w1.heap.size, 0, none⟩) 16 16) (uuidOf (.mk n s tnull l u)) := by
          intro w3 cells p1 p2
          subst p2
          have hlen := uuidOf_length (.mk n s tnull l u)
          refine ⟨by rw [cellsOf_length, hlen], .inr ⟨w1.heap.size, 16, _, by rw [hlen], hsz1, p1, by rw [hlen]; exact Nat.le_refl _, by decide, by simp [cellsOf_length, hlen], ?_⟩⟩
          rw [hlen]
          simp
          rw [List.take_of_length_le (by rw [cellsOf_length, hlen]; exact Nat.le_refl _)]
        by_cases hmin : min s.length 16 = 0
        · have hs0 : s = [] := List.eq_nil_of_length_eq_zero (by omega)
          refine ⟨0, w2, fun ty => ?_, hb2, own w2 (List.replicate 16 (Value.int .u8 0)) (by rw [hnew, ← hmade]) ?_⟩
          · exact run_copy_none w2 X.Bs X.Bs ty X.U8 _ _ 16 16 s.length sc hu8 hsize8 hmin
          · subst hs0
            simp [uuidOf, Tree.s, cellsOf, cell]
        · rcases hB2 with ⟨_, e⟩ | ⟨sb', so', rfl, _, hcells⟩
          · subst e; simp at hmin
          · have hcl : (cellsOf (s.take 16)).length = min s.length 16 := by rw [cellsOf_length, List.length_take]; omega
            have hone : ∀ v ∈ cellsOf (s.take 16), v.oneCell' = true := by
              intro v hv
              simp only [cellsOf, List.mem_map] at hv
              obtain ⟨c, _, rfl⟩ := hv
              rfl
            have hrow := setCells_row P (w := w2) (g := w1.heap.size) (o := 0) (vs := cellsOf (s.take 16)) hnew (by rw [hcl]; simp [madeCells]; omega) hone
            refine ⟨(cellsOf (s.take 16)).length, w2.setCells w1.heap.size 0 (cellsOf (s.take 16)), fun ty => ?_, ?_, ?_⟩
            · refine run_copy_cells w2 X.Bs X.Bs ty X.U8 w1.heap.size 0 16 16 ⟨sb', so', none⟩ s.length sc _ hu8 hsize8 hcl ?_ ?_ ?_ hone
              · intro j v hj
                rw [add_none]
                refine cells_cell (bs := s) hcells j v ?_
                simp only [cellsOf, List.getElem?_map] at hj ⊢
                rw [List.getElem?_take] at hj
                split at hj
                · exact hj
                · simp at hj
              · intro j hj
                rw [cell_of_row _ _ _ _ _ _ hnew, Array.getElem?_eq_getElem (by rw [hcl] at hj; simp [madeCells]; omega)]
                rfl
              · intro j hj
                simp [World.frozen?, hnew]
            · rw [hrow]
              exact below_setRow hb2 (by omega) _
            · rw [hrow]
              refine own _ _ (setRow_heap w2 _ _ _ _ _ hnew) ?_
              rw [hmade, hcl]
              simp only [List.take_zero, List.nil_append, Nat.zero_add]
              unfold uuidOf
              simp only [Tree.s]
              rw [List.take_append, cellsOf_append]
              congr 1
              simp only [List.drop_replicate, List.take_replicate, cellsOf, List.map_replicate]
              congr 1
              omega
      obtain ⟨k, w3, hrun, hb3, ho3⟩ := hcopy
      refine opsw_none rfl (opw_of fun o next Q hdd ho hnn => ?_)
      have hop := stripOp_eq (by simp) ho
      have hr' : ∀ av : Operand → Value, av (.tmp 27) = .slice (some ⟨w1.heap.size, 0, none⟩) 16 16 → av (.tmp 29) = .slice sb s.length sc → (execOp av o).run P w2 = .ok (.value (.int .i64 k)) w3 := by
        intro av e1 e2
        simp [execOp, hop, resolve, invoke, builtin, e1, e2, hrun]
      rw [hr' _ (by simp (disch := first | omega | (simp only [size_put]; omega)) [eval_tmp, eval_const, put_none, getT_put, getT_put_ne]) (by simp (disch := first | omega | (simp only [size_put]; omega)) [eval_tmp, eval_const, put_none, getT_put, getT_put_ne]), Oper.upon_value, hdd]
      refine hnn _ _ (ops_nil ?_)
      simp only [Exit.then]
      refine SC.wp_seq (SC.wp_reg ?_)
      repeat (first | (apply ops_1; (focus (simp (disch := first | omega | (simp only [size_put]; omega)) [qv, qcall, vop, iop, eval_tmp, eval_const, put_none, getT_put, getT_put_ne]; try rfl))) | (apply ops_y; (focus rfl); (focus (first | omega | (simp only [size_put]; omega))); (focus (simp (disch := first | omega | (simp only [size_put]; omega)) [put_none, getT_put, getT_put_ne]; done)); (focus (simp (disch := first | omega | (simp only [size_put]; omega)) [qv, qcall, vop, iop, eval_tmp, eval_const, put_none, getT_put, getT_put_ne]; try rfl))) | (apply ops_n; (focus rfl); (focus (first | omega | (simp only [size_put]; omega))); (focus (first | (left; simp (disch := first | omega | (simp only [size_put]; omega)) [put_none, getT_put, getT_put_ne]; done) | (right; simp (disch := first | omega | (simp only [size_put]; omega)) [put_none, getT_put, getT_put_ne]; done)))))
      refine ops_nil (SC.wp_ret ?_)
      simp only [Exit.then, Exit.inBlock]
      exact fin _ _ _ _ (by simp [defers_put, hd]) (by simp (disch := first | omega | (simp only [size_put]; omega)) [eval_tmp, eval_const, put_none, getT_put, getT_put_ne]) ho3 hb3 (by simp [wTy, wPrim, uuidOf, Tree.s])
    | str =>
      simp only [kindOf] at h0 ⊢
      iterate 2 (refine SC.wp_seq (SC.wp_reg ?_); (repeat (first | (apply ops_1; (focus (simp (disch := first | omega | (simp only [size_put]; omega)) [qv, qcall, vop, iop, eval_tmp, eval_const, put_none, getT_put, getT_put_ne]; try rfl))) | (apply ops_y; (focus rfl); (focus (first | omega | (simp only [size_put]; omega))); (focus (simp (disch := first | omega | (simp only [size_put]; omega)) [put_none, getT_put, getT_put_ne]; done)); (focus (simp (disch := first | omega | (simp only [size_put]; omega)) [qv, qcall, vop, iop, eval_tmp, eval_const, put_none, getT_put, getT_put_ne]; try rfl))) | (apply ops_n; (focus rfl); (focus (first | omega | (simp only [size_put]; omega))); (focus (first | (left; simp (disch := first | omega | (simp only [size_put]; omega)) [put_none, getT_put, getT_put_ne]; done) | (right; simp (disch := first | omega | (simp only [size_put]; omega)) [put_none, getT_put, getT_put_ne]; done)))))); refine ops_nil (SC.wp_cond (t := false) (by simp (disch := first | omega | (simp only [size_put]; omega)) [eval_tmp, eval_const, put_none, getT_put, getT_put_ne]) ?_); rw [if_neg (by simp)])
      (refine SC.wp_seq (SC.wp_reg ?_); (repeat (first | (apply ops_1; (focus (simp (disch := first | omega | (simp only [size_put]; omega)) [qv, qcall, vop, iop, eval_tmp, eval_const, put_none, getT_put, getT_put_ne]; try rfl))) | (apply ops_y; (focus rfl); (focus (first | omega | (simp only [size_put]; omega))); (focus (simp (disch := first | omega | (simp only [size_put]; omega)) [put_none, getT_put, getT_put_ne]; done)); (focus (simp (disch := first | omega | (simp only [size_put]; omega)) [qv, qcall, vop, iop, eval_tmp, eval_const, put_none, getT_put, getT_put_ne]; try rfl))) | (apply ops_n; (focus rfl); (focus (first | omega | (simp only [size_put]; omega))); (focus (first | (left; simp (disch := first | omega | (simp only [size_put]; omega)) [put_none, getT_put, getT_put_ne]; done) | (right; simp (disch := first | omega | (simp only [size_put]; omega)) [put_none, getT_put, getT_put_ne]; done)))))); refine ops_nil (SC.wp_cond (t := true) (by simp (disch := first | omega | (simp only [size_put]; omega)) [eval_tmp, eval_const, put_none, getT_put, getT_put_ne]) ?_); rw [if_pos rfl])
      refine SC.wp_seq (SC.wp_reg ?_)
      iterate 2 (first | (apply ops_1; (focus (simp (disch := first | omega | (simp only [size_put]; omega)) [qv, qcall, vop, iop, eval_tmp, eval_const, put_none, getT_put, getT_put_ne, hst, hc]; try rfl))) | (apply ops_y; (focus rfl); (focus (first | omega | (simp only [size_put]; omega))); (focus (simp (disch := first | omega | (simp only [size_put]; omega)) [put_none, getT_put, getT_put_ne, hst, hc]; done)); (focus (simp (disch := first | omega | (simp only [size_put]; omega)) [qv, qcall, vop, iop, eval_tmp, eval_const, put_none, getT_put, getT_put_ne, hst, hc]; try rfl))) | (apply ops_n; (focus rfl); (focus (first | omega | (simp only [size_put]; omega))); (focus (first | (left; simp (disch := first | omega | (simp only [size_put]; omega)) [put_none, getT_put, getT_put_ne, hst, hc]; done) | (right; simp (disch := first | omega | (simp only [size_put]; omega)) [put_none, getT_put, getT_put_ne]; done)))))
      refine ops_call S.oW (S.cW w1 sb s.length sc hsc) (by simp (disch := first | omega | (simp only [size_put]; omega)) [eval_tmp, eval_const, put_none, getT_put, getT_put_ne]) ?_
      rintro e w2 ⟨rfl, rfl⟩
      refine ⟨_, rfl, ?_⟩
      repeat (first | (apply ops_1; (focus (simp (disch := first | omega | (simp only [size_put]; omega)) [qv, qcall, vop, iop, eval_tmp, eval_const, put_none, getT_put, getT_put_ne]; try rfl))) | (apply ops_y; (focus rfl); (focus (first | omega | (simp only [size_put]; omega))); (focus (simp (disch := first | omega | (simp only [size_put]; omega)) [put_none, getT_put, getT_put_ne]; done)); (focus (simp (disch := first | omega | (simp only [size_put]; omega)) [qv, qcall, vop, iop, eval_tmp, eval_const, put_none, getT_put, getT_put_ne]; try rfl))) | (apply ops_n; (focus rfl); (focus (first | omega | (simp only [size_put]; omega))); (focus (first | (left; simp (disch := first | omega | (simp only [size_put]; omega)) [put_none, getT_put, getT_put_ne]; done) | (right; simp (disch := first | omega | (simp only [size_put]; omega)) [put_none, getT_put, getT_put_ne]; done)))))
      refine ops_nil (SC.wp_seq (SC.wp_seq (SC.wp_reg ?_)))
      repeat (first | (apply ops_1; (focus (simp (disch := first | omega | (simp only [size_put]; omega)) [qv, qcall, vop, iop, eval_tmp, eval_const, put_none, getT_put, getT_put_ne, h2]; try rfl))) | (apply ops_y; (focus rfl); (focus (first | omega | (simp only [size_put]; omega))); (focus (simp (disch := first | omega | (simp only [size_put]; omega)) [put_none, getT_put, getT_put_ne, h2]; done)); (focus (simp (disch := first | omega | (simp only [size_put]; omega)) [qv, qcall, vop, iop, eval_tmp, eval_const, put_none, getT_put, getT_put_ne, h2]; try rfl))) | (apply ops_n; (focus rfl); (focus (first | omega | (simp only [size_put]; omega))); (focus (first | (left; simp (disch := first | omega | (simp only [size_put]; omega)) [put_none, getT_put, getT_put_ne, h2]; done) | (right; simp (disch := first | omega | (simp only [size_put]; omega)) [put_none, getT_put, getT_put_ne]; done)))))
      refine ops_nil (SC.wp_cond (t := null) (by simp (disch := first | omega | (simp only [size_put]; omega)) [eval_tmp, eval_const, put_none, getT_put, getT_put_ne]) ?_)
      have ew : (whole s).length = min s.length most := by simp [whole, Nat.min_comm]
      cases null
      · rw [if_neg (by simp)]
        refine SC.wp_skip ?_
        simp only [Exit.then]
        refine text_tail hX S 14 38 2 (by decide) (by decide) (by decide) (by simp only [size_put]; omega) (whole s) sb sc flex false (by simp (disch := first | omega | (simp only [size_put]; omega)) [eval_tmp, eval_const, put_none, getT_put, getT_put_ne, h4]) (by simp (disch := first | omega | (simp only [size_put]; omega)) [eval_tmp, eval_const, put_none, getT_put, getT_put_ne, h2]) (by simp (disch := first | omega | (simp only [size_put]; omega)) [eval_tmp, eval_const, put_none, getT_put, getT_put_ne, ew]) (bytesAt_whole hBs most) q2 hsz1 (by simpa [wTy, wPrim, Tree.s] using hl) ?_
        intro a' w' v p1 p2 p3 p4
        simp only [Exit.inBlock]
        exact fin _ _ _ v (by rw [p1]; simp [defers_put, hd]) p2 p3 p4 (by simp [wTy, wPrim, Tree.s])
      · rw [if_pos rfl]
        refine SC.wp_reg ?_
        repeat (first | (apply ops_1; (focus (simp (disch := first | omega | (simp only [size_put]; omega)) [qv, qcall, vop, iop, eval_tmp, eval_const, put_none, getT_put, getT_put_ne]; try rfl))) | (apply ops_y; (focus rfl); (focus (first | omega | (simp only [size_put]; omega))); (focus (simp (disch := first | omega | (simp only [size_put]; omega)) [put_none, getT_put, getT_put_ne]; done)); (focus (simp (disch := first | omega | (simp only [size_put]; omega)) [qv, qcall, vop, iop, eval_tmp, eval_const, put_none, getT_put, getT_put_ne]; try rfl))) | (apply ops_n; (focus rfl); (focus (first | omega | (simp only [size_put]; omega))); (focus (first | (left; simp (disch := first | omega | (simp only [size_put]; omega)) [put_none, getT_put, getT_put_ne]; done) | (right; simp (disch := first | omega | (simp only [size_put]; omega)) [put_none, getT_put, getT_put_ne]; done)))))
        refine ops_nil ?_
        simp only [Exit.then]
        refine text_tail hX S 14 38 2 (by decide) (by decide) (by decide) (by simp only [size_put]; omega) [] none 0 flex true (by simp (disch := first | omega | (simp only [size_put]; omega)) [eval_tmp, eval_const, put_none, getT_put, getT_put_ne, h4]) (by simp (disch := first | omega | (simp only [size_put]; omega)) [eval_tmp, eval_const, put_none, getT_put, getT_put_ne, h2]) (by simp (disch := first | omega | (simp only [size_put]; omega)) [eval_tmp, eval_const, put_none, getT_put, getT_put_ne]) (.inl ⟨rfl, rfl⟩) q2 hsz1 (by simpa [wTy, wPrim, Tree.s] using hl) ?_
        intro a' w' v p1 p2 p3 p4
        simp only [Exit.inBlock]
        exact fin _ _ _ v (by rw [p1]; simp [defers_put, hd]) p2 p3 p4 (by simp [wTy, wPrim, Tree.s])
    | bytes =>
      simp only [kindOf] at h0 ⊢
      iterate 3 (refine SC.wp_seq (SC.wp_reg ?_); (repeat (first | (apply ops_1; (focus (simp (disch := first | omega | (simp only [size_put]; omega)) [qv, qcall, vop, iop, eval_tmp, eval_const, put_none, getT_put, getT_put_ne]; try rfl))) | (apply ops_y; (focus rfl); (focus (first | omega | (simp only [size_put]; omega))); (focus (simp (disch := first | omega | (simp only [size_put]; omega)) [put_none, getT_put, getT_put_ne]; done)); (focus (simp (disch := first | omega | (simp only [size_put]; omega)) [qv, qcall, vop, iop, eval_tmp, eval_const, put_none, getT_put, getT_put_ne]; try rfl))) | (apply ops_n; (focus rfl); (focus (first | omega | (simp only [size_put]; omega))); (focus (first | (left; simp (disch := first | omega | (simp only [size_put]; omega)) [put_none, getT_put, getT_put_ne]; done) | (right; simp (disch := first | omega | (simp only [size_put]; omega)) [put_none, getT_put, getT_put_ne]; done)))))); refine ops_nil (SC.wp_cond (t := false) (by simp (disch := first | omega | (simp only [size_put]; omega)) [eval_tmp, eval_const, put_none, getT_put, getT_put_ne]) ?_); rw [if_neg (by simp)])
      (refine SC.wp_seq (SC.wp_reg ?_); (repeat (first | (apply ops_1; (focus (simp (disch := first | omega | (simp only [size_put]; omega)) [qv, qcall, vop, iop, eval_tmp, eval_const, put_none, getT_put, getT_put_ne]; try rfl))) | (apply ops_y; (focus rfl); (focus (first | omega | (simp only [size_put]; omega))); (focus (simp (disch := first | omega | (simp only [size_put]; omega)) [put_none, getT_put, getT_put_ne]; done)); (focus (simp (disch := first | omega | (simp only [size_put]; omega)) [qv, qcall, vop, iop, eval_tmp, eval_const, put_none, getT_put, getT_put_ne]; try rfl))) | (apply ops_n; (focus rfl); (focus (first | omega | (simp only [size_put]; omega))); (focus (first | (left; simp (disch := first | omega | (simp only [size_put]; omega)) [put_none, getT_put, getT_put_ne]; done) | (right; simp (disch := first | omega | (simp only [size_put]; omega)) [put_none, getT_put, getT_put_ne]; done)))))); refine ops_nil (SC.wp_cond (t := true) (by simp (disch := first | omega | (simp only [size_put]; omega)) [eval_tmp, eval_const, put_none, getT_put, getT_put_ne]) ?_); rw [if_pos rfl])
      refine SC.wp_seq (SC.wp_reg ?_)
      iterate 2 (first | (apply ops_1; (focus (simp (disch := first | omega | (simp only [size_put]; omega)) [qv, qcall, vop, iop, eval_tmp, eval_const, put_none, getT_put, getT_put_ne, hst, hc]; try rfl))) | (apply ops_y; (focus rfl); (focus (first | omega | (simp only [size_put]; omega))); (focus (simp (disch := first | omega | (simp only [size_put]; omega)) [put_none, getT_put, getT_put_ne, hst, hc]; done)); (focus (simp (disch := first | omega | (simp only [size_put]; omega)) [qv, qcall, vop, iop, eval_tmp, eval_const, put_none, getT_put, getT_put_ne, hst, hc]; try rfl))) | (apply ops_n; (focus rfl); (focus (first | omega | (simp only [size_put]; omega))); (focus (first | (left; simp (disch := first | omega | (simp only [size_put]; omega)) [put_none, getT_put, getT_put_ne, hst, hc]; done) | (right; simp (disch := first | omega | (simp only [size_put]; omega)) [put_none, getT_put, getT_put_ne]; done)))))
      refine ops_call S.oW (S.cW w1 sb s.length sc hsc) (by simp (disch := first | omega | (simp only [size_put]; omega)) [eval_tmp, eval_const, put_none, getT_put, getT_put_ne]) ?_
      rintro e w2 ⟨rfl, rfl⟩
      refine ⟨_, rfl, ?_⟩
      repeat (first | (apply ops_1; (focus (simp (disch := first | omega | (simp only [size_put]; omega)) [qv, qcall, vop, iop, eval_tmp, eval_const, put_none, getT_put, getT_put_ne]; try rfl))) | (apply ops_y; (focus rfl); (focus (first | omega | (simp only [size_put]; omega))); (focus (simp (disch := first | omega | (simp only [size_put]; omega)) [put_none, getT_put, getT_put_ne]; done)); (focus (simp (disch := first | omega | (simp only [size_put]; omega)) [qv, qcall, vop, iop, eval_tmp, eval_const, put_none, getT_put, getT_put_ne]; try rfl))) | (apply ops_n; (focus rfl); (focus (first | omega | (simp only [size_put]; omega))); (focus (first | (left; simp (disch := first | omega | (simp only [size_put]; omega)) [put_none, getT_put, getT_put_ne]; done) | (right; simp (disch := first | omega | (simp only [size_put]; omega)) [put_none, getT_put, getT_put_ne]; done)))))
      refine ops_nil (SC.wp_seq (SC.wp_seq (SC.wp_reg ?_)))
      repeat (first | (apply ops_1; (focus (simp (disch := first | omega | (simp only [size_put]; omega)) [qv, qcall, vop, iop, eval_tmp, eval_const, put_none, getT_put, getT_put_ne, h2]; try rfl))) | (apply ops_y; (focus rfl); (focus (first | omega | (simp only [size_put]; omega))); (focus (simp (disch := first | omega | (simp only [size_put]; omega)) [put_none, getT_put, getT_put_ne, h2]; done)); (focus (simp (disch := first | omega | (simp only [size_put]; omega)) [qv, qcall, vop, iop, eval_tmp, eval_const, put_none, getT_put, getT_put_ne, h2]; try rfl))) | (apply ops_n; (focus rfl); (focus (first | omega | (simp only [size_put]; omega))); (focus (first | (left; simp (disch := first | omega | (simp only [size_put]; omega)) [put_none, getT_put, getT_put_ne, h2]; done) | (right; simp (disch := first | omega | (simp only [size_put]; omega)) [put_none, getT_put, getT_put_ne]; done)))))
      refine ops_nil (SC.wp_cond (t := null) (by simp (disch := first | omega | (simp only [size_put]; omega)) [eval_tmp, eval_const, put_none, getT_put, getT_put_ne]) ?_)
      have ew : (whole s).length = min s.length most := by simp [whole, Nat.min_comm]
      cases null
      · rw [if_neg (by simp)]
        refine SC.wp_skip ?_
        simp only [Exit.then]
        refine text_tail hX S 15 51 4 (by decide) (by decide) (by decide) (by simp only [size_put]; omega) (whole s) sb sc flex false (by simp (disch := first | omega | (simp only [size_put]; omega)) [eval_tmp, eval_const, put_none, getT_put, getT_put_ne, h4]) (by simp (disch := first | omega | (simp only [size_put]; omega)) [eval_tmp, eval_const, put_none, getT_put, getT_put_ne, h2]) (by simp (disch := first | omega | (simp only [size_put]; omega)) [eval_tmp, eval_const, put_none, getT_put, getT_put_ne, ew]) (bytesAt_whole hBs most) q2 hsz1 (by simpa [wTy, wPrim, Tree.s] using hl) ?_
        intro a' w' v p1 p2 p3 p4
        simp only [Exit.inBlock]
        exact fin _ _ _ v (by rw [p1]; simp [defers_put, hd]) p2 p3 p4 (by simp [wTy, wPrim, Tree.s])
      · rw [if_pos rfl]
        refine SC.wp_reg ?_
        repeat (first | (apply ops_1; (focus (simp (disch := first | omega | (simp only [size_put]; omega)) [qv, qcall, vop, iop, eval_tmp, eval_const, put_none, getT_put, getT_put_ne]; try rfl))) | (apply ops_y; (focus rfl); (focus (first | omega | (simp only [size_put]; omega))); (focus (simp (disch := first | omega | (simp only [size_put]; omega)) [put_none, getT_put, getT_put_ne]; done)); (focus (simp (disch := first | omega | (simp only [size_put]; omega)) [qv, qcall, vop, iop, eval_tmp, eval_const, put_none, getT_put, getT_put_ne]; try rfl))) | (apply ops_n; (focus rfl); (focus (first | omega | (simp only [size_put]; omega))); (focus (first | (left; simp (disch := first | omega | (simp only [size_put]; omega)) [put_none, getT_put, getT_put_ne]; done) | (right; simp (disch := first | omega | (simp only [size_put]; omega)) [put_none, getT_put, getT_put_ne]; done)))))
        refine ops_nil ?_
        simp only [Exit.then]
        refine text_tail hX S 15 51 4 (by decide) (by decide) (by decide) (by simp only [size_put]; omega) [] none 0 flex true (by simp (disch := first | omega | (simp only [size_put]; omega)) [eval_tmp, eval_const, put_none, getT_put, getT_put_ne, h4]) (by simp (disch := first | omega | (simp only [size_put]; omega)) [eval_tmp, eval_const, put_none, getT_put, getT_put_ne, h2]) (by simp (disch := first | omega | (simp only [size_put]; omega)) [eval_tmp, eval_const, put_none, getT_put, getT_put_ne]) (.inl ⟨rfl, rfl⟩) q2 hsz1 (by simpa [wTy, wPrim, Tree.s] using hl) ?_
        intro a' w' v p1 p2 p3 p4
        simp only [Exit.inBlock]
        exact fin _ _ _ v (by rw [p1]; simp [defers_put, hd]) p2 p3 p4 (by simp [wTy, wPrim, Tree.s])
end
end Go.Proofs.Ytioodpjcpadkoaa.K
