/- The reference's functions on numbers and counts. No condition. -/
import Derived.Test.YtioodpjcpadkoaaS3
namespace Go.Proofs.Ytioodpjcpadkoaa.K
open Go Go.RowKit Go.Proofs.Ytioodpjcpadkoaa.T
set_option linter.unusedSimpArgs false
set_option linter.unusedVariables false
set_option maxHeartbeats 1000000

/-- what a function that writes returns: octets of its own -/
def RetOwn (tU8 : Nat) (w : World) (out : Bytes) (e : Ending) (w' : World) : Prop :=
  ∃ v, e = .returned v ∧ Own tU8 w' w.heap.size v out ∧ Below w.heap.size w w'

section
variable {P : Program} {X : STy} {f : FuncId} {fn : Func}

theorem ret_cell {T b p : Nat} {R : Ending → World → Prop} {a : Act} {w : World} {cs : Array Value} {E : TypeId} (hr : fn.results = #[.cell p T]) (hT : aggN P T = some cs.size) (hp : getT a p = .pointer (some ⟨b, 0, none⟩)) (hg : w.heap[b]? = some (.cells cs E (0, 0)))
    (hd : a.defers = []) (hR : R (.returned (.agg cs)) w) : bodyPost P fn R .ret a w := by
  refine bodyPost_ret_by ?_ hd hR
  unfold aggN at hT
  split at hT <;> try (simp at hT; done)
  · rename_i i f hi hu
    simp at hT
    exact results_cell_row hr a.tmps w b E cs (0, 0) _ hp hg hu rfl (by rw [hi]; simpa using hT)
  · rename_i i f e hi hu
    simp at hT
    exact results_cell_row hr a.tmps w b E cs (0, 0) _ hp hg hu rfl (by rw [hi]; simpa using hT)

/-- a literal of octets, appended -/
theorem ops_u8app {all : List SOp} {a : Act} {w : World} {B T tU8 td ts tr n : Nat} {dv : Value} {xs bs : Bytes} {parts : Array (Nat × Operand)} {r : List SOp} {K : Act → World → Prop} (hT : u8sB P T tU8 = true) (hn : n = bs.length) (hs : n ≤ 100) (hn0 : 0 < n)
    (hp : (parts.map fun x => (x.1, a.eval x.2)).toList = (List.range' 0 bs.length).zip (cellsOf bs)) (ho : Own tU8 w B dv xs) (hB : B ≤ w.heap.size) (hlen : xs.length + bs.length ≤ lim) (hdv : getT a td = dv) (hne : td ≠ ts) (hsz : ts < a.tmps.size)
    (hK : ∀ dv' w' v1, Own tU8 w' B dv' (xs ++ bs) → Below B w w' → B ≤ w'.heap.size → opsw P all r K ((a.put (some ts) v1).put (some tr) dv') w') :
    opsw P all (⟨some ts, .buildSlice T n parts, none⟩ :: ⟨some tr, .call ⟨.builtin .append, #[.tmp td, .tmp ts], #[T, T]⟩, none⟩ :: r) K a w := by
  refine opsw_none rfl (opw_buildU8s hT hn (by omega) hn0 hp (opsw_none rfl ?_))
  have hown : Own tU8 (w.alloc (.cells (cellsOf bs).toArray tU8)) B dv xs := ho.alloc _
  obtain ⟨hu, _⟩ := u8s_of hT
  refine opw_appendU8 (B := B) (dv := dv) (xv := .slice (some ⟨w.heap.size, 0, none⟩) bs.length bs.length) (xs := xs) (bs := bs) hT ?_ ?_ rfl hown (by simp; omega) ?_ hlen ?_
  · rw [eval_tmp, getT_put_ne hne]; exact hdv
  · rw [eval_tmp, getT_put hsz]
  · refine Src.ofSlice _ hu ⟨w.heap.size, 0, none⟩ _ _ _ (by rw [cellsOf_length, Nat.mul_one]) ?_ ?_
    · intro j u hj
      rw [add_none, cell_of_row _ _ _ _ _ _ (heap_alloc_new w _)]
      simpa using hj
    · intro u hu
      simp only [cellsOf, List.mem_map] at hu
      obtain ⟨c, _, rfl⟩ := hu
      rfl
  · intro dv' w' q1 q2 q3 _
    exact hK dv' w' _ q1 (((Below.refl B w).alloc hB _).trans q2) q3

/-- a literal of octets -/
theorem ops_u8lit {all : List SOp} {a : Act} {w : World} {B T tU8 ts n : Nat} {bs : Bytes} {parts : Array (Nat × Operand)} {r : List SOp} {K : Act → World → Prop} (hT : u8sB P T tU8 = true) (hn : n = bs.length) (hs : n ≤ 100) (hn0 : 0 < n)
    (hp : (parts.map fun x => (x.1, a.eval x.2)).toList = (List.range' 0 bs.length).zip (cellsOf bs)) (hB : B ≤ w.heap.size)
    (hK : ∀ dv' w', Own tU8 w' B dv' bs → Below B w w' → opsw P all r K (a.put (some ts) dv') w') :
    opsw P all (⟨some ts, .buildSlice T n parts, none⟩ :: r) K a w := by
  refine opsw_none rfl (opw_buildU8s hT hn (by omega) hn0 hp (hK _ _ ?_ ((Below.refl B w).alloc hB _)))
  have h := World.ownsRow_lit (base := B) (e := tU8) (size := 1) w (cellsOf bs).toArray bs.length hB (by simp only [maxLen]; omega) (by simp [cellsOf_length])
  simpa [Own] using h

theorem own_eq {tU8 : Nat} {w : World} {B : Nat} {v v' : Value} {xs : Bytes} (h : Own tU8 w B v xs) (e : v' = v) : Own tU8 w B v' xs := e ▸ h
theorem own_nil (tU8 : Nat) (w : World) (B : Nat) : Own tU8 w B (.slice none 0 0) [] := World.ownsRow_nil w B tU8 1

theorem opw_and127 {a : Act} {w : World} {K : Act → World → Prop} {d : Option Tmp} {g : Option (Nat × Bool)} {T T' : TypeId} {x : Operand} {m : Nat} (hx : a.eval x = .int .u64 (m : Int)) (hm : m < 18446744073709551616) (h : K (a.put d (.int .u64 ((m % 128 : Nat) : Int))) w) : opw P ⟨d, .binOp .and T x (.const (.int .u64 127)) T', g⟩ a w K := by
  refine opw_value (by simp) (fun p hp => ?_) h
  have e : IntKind.u64.wrap (((BitVec.ofInt IntKind.u64.bits (m : Int)) &&& (BitVec.ofInt IntKind.u64.bits 127)).toNat : Int) = ((m % 128 : Nat) : Int) := by
    have h1 : ((BitVec.ofInt 64 (m : Int)) &&& (BitVec.ofInt 64 127)).toNat = m % 128 := by
      rw [BitVec.toNat_and]
      have e1 : (BitVec.ofInt 64 (m : Int)).toNat = m := by simp [BitVec.toNat_ofInt]; omega
      have e2 : (BitVec.ofInt 64 127).toNat = 2 ^ 7 - 1 := by decide
      rw [e1, e2, Nat.and_two_pow_sub_one_eq_mod]
    show IntKind.u64.wrap (((BitVec.ofInt 64 (m : Int)) &&& (BitVec.ofInt 64 127)).toNat : Int) = _
    rw [h1, wrap_u64]
    omega
  simp only [execOp, hp, hx, eval_const]
  simp [run_eqGuard_int, binOp, Op.intBits]
  exact e
theorem opw_or128 {a : Act} {w : World} {K : Act → World → Prop} {d : Option Tmp} {g : Option (Nat × Bool)} {T T' : TypeId} {x : Operand} {m : Nat} (hx : a.eval x = .int .u8 (m : Int)) (hm : m < 128) (h : K (a.put d (.int .u8 ((m + 128 : Nat) : Int))) w) : opw P ⟨d, .binOp .or T x (.const (.int .u8 128)) T', g⟩ a w K := by
  refine opw_value (by simp) (fun p hp => ?_) h
  have e : IntKind.u8.wrap (((BitVec.ofInt IntKind.u8.bits (m : Int)) ||| (BitVec.ofInt IntKind.u8.bits 128)).toNat : Int) = ((m + 128 : Nat) : Int) := by
    have h1 : ((BitVec.ofInt 8 (m : Int)) ||| (BitVec.ofInt 8 128)).toNat = m + 128 := by
      rw [BitVec.toNat_or]
      have e1 : (BitVec.ofInt 8 (m : Int)).toNat = m := by simp [BitVec.toNat_ofInt]; omega
      have e2 : (BitVec.ofInt 8 128).toNat = 2 ^ 7 * 1 := by decide
      rw [e1, e2, Nat.or_comm, ← Nat.two_pow_add_eq_or_of_lt (by omega) 1]
      omega
    show IntKind.u8.wrap (((BitVec.ofInt 8 (m : Int)) ||| (BitVec.ofInt 8 128)).toNat : Int) = _
    rw [h1, wrap_u8]
    omega
  simp only [execOp, hp, hx, eval_const]
  simp [run_eqGuard_int, binOp, Op.intBits]
  exact e

theorem uvarint_length (n : Nat) : n < 18446744073709551616 → (uvarint n).length ≤ 10 := by
  intro h
  have aux : ∀ k n : Nat, n < 128 ^ k → (uvarint n).length ≤ max k 1 := by
    intro k
    induction k with
    | zero =>
      intro n hn
      have h0 : n = 0 := by simpa using hn
      rw [h0, uvarint_lt (by decide)]
      exact Nat.le_refl 1
    | succ k ih =>
      intro n hn
      by_cases h : n ≤ 127
      · rw [uvarint_lt h]
        show 1 ≤ _
        omega
      · rw [uvarint_ge (by omega), List.length_cons]
        have h1 : n / 128 < 128 ^ k := by rw [Nat.pow_succ] at hn; omega
        have h2 := ih _ h1
        have : 0 < k := by
          cases k with
          | zero => simp at h1; omega
          | succ k => omega
        omega
  have := aux 10 n (by have : (128 : Nat) ^ 10 = 1180591620717411303424 := by decide
                       omega)
  omega

theorem sUvarint_ok (hX : stOK P X = true) (hf : P.funcs[f]? = some fn) (hb : fn.body.map strip = some (sc_Uvarint X.U64 X.U8 X.Bs X.U)) (hn : fn.ntmps = 20) (hr : fn.results = #[.tmp 2])
    (w : World) (n : Nat) (hn64 : n < 18446744073709551616) : Calls P f #[.int .u64 (n : Int)] w (RetOwn X.U8 w (uvarint n)) := by
  have hst := st_facts hX
  have hU8s := hst.2.2.1.1
  refine fn_calls hf hb hn (by simp) fun a0 hs hd ha => ?_
  have h0 := ha 0 _ rfl
  simp only [List.getElem_toArray, List.getElem_cons_zero, List.getElem_cons_succ] at h0
  have hlim : lim = 70368744177664 := rfl
  have hlen := uvarint_length n hn64
  refine SC.wp_seq (SC.wp_reg ?_)
  repeat (first | (apply ops_1; (focus (simp (disch := first | omega | (simp only [size_put]; omega)) [qv, qcall, vop, iop, eval_tmp, eval_const, getT_put, getT_put_ne]; try rfl))) | (apply ops_y; (focus rfl); (focus (first | omega | (simp only [size_put]; omega))); (focus (simp (disch := first | omega | (simp only [size_put]; omega)) [getT_put, getT_put_ne]; done)); (focus (simp (disch := first | omega | (simp only [size_put]; omega)) [qv, qcall, vop, iop, eval_tmp, eval_const, getT_put, getT_put_ne]; try rfl))) | (apply ops_n; (focus rfl); (focus (first | omega | (simp only [size_put]; omega))); (focus (first | (left; simp (disch := first | omega | (simp only [size_put]; omega)) [getT_put, getT_put_ne]; done) | (right; simp (disch := first | omega | (simp only [size_put]; omega)) [getT_put, getT_put_ne]; done)))))
  refine ops_nil (SC.wp_seq (SC.wp_reg ?_))
  repeat (first | (apply ops_1; (focus (simp (disch := first | omega | (simp only [size_put]; omega)) [qv, qcall, vop, iop, eval_tmp, eval_const, getT_put, getT_put_ne]; try rfl))) | (apply ops_y; (focus rfl); (focus (first | omega | (simp only [size_put]; omega))); (focus (simp (disch := first | omega | (simp only [size_put]; omega)) [getT_put, getT_put_ne]; done)); (focus (simp (disch := first | omega | (simp only [size_put]; omega)) [qv, qcall, vop, iop, eval_tmp, eval_const, getT_put, getT_put_ne]; try rfl))) | (apply ops_n; (focus rfl); (focus (first | omega | (simp only [size_put]; omega))); (focus (first | (left; simp (disch := first | omega | (simp only [size_put]; omega)) [getT_put, getT_put_ne]; done) | (right; simp (disch := first | omega | (simp only [size_put]; omega)) [getT_put, getT_put_ne]; done)))))
  refine ops_nil (SC.wp_seq (SC.wp_block ?_))
  refine SC.wp_loop (fun a w1 => ∃ (m : Nat) (xs : Bytes), a.tmps.size = 20 ∧ a.defers = [] ∧ getT a 0 = .int .u64 (m : Int) ∧ Own X.U8 w1 w.heap.size (getT a 3) xs ∧ xs ++ uvarint m = uvarint n ∧ m ≤ n ∧ Below w.heap.size w w1 ∧ w.heap.size ≤ w1.heap.size)
    (fun a _ => match getT a 0 with | .int _ m => m.toNat | _ => 0) ⟨n, [], by simp [size_put, hs], by simp [defers_put, hd], by simp (disch := first | omega | (simp only [size_put]; omega)) [eval_tmp, eval_const, getT_put, getT_put_ne, h0], by simp (disch := first | omega | (simp only [size_put]; omega)) [eval_tmp, eval_const, getT_put, getT_put_ne]; exact own_nil _ _ _, by simp, Nat.le_refl _, Below.refl _ _, Nat.le_refl _⟩ ?_
  rintro a w1 ⟨m, xs, hs1, hd1, g0, ho, hx, hm, hbw, hsz⟩
  have hxl : xs.length + (uvarint m).length ≤ 10 := by rw [← List.length_append, hx]; exact hlen
  refine SC.wp_seq (SC.wp_seq (SC.wp_reg ?_))
  repeat (first | (apply ops_1; (focus (simp (disch := first | omega | (simp only [size_put]; omega)) [qv, qcall, vop, iop, eval_tmp, eval_const, getT_put, getT_put_ne, hst, g0]; try rfl))) | (apply ops_y; (focus rfl); (focus (first | omega | (simp only [size_put]; omega))); (focus (simp (disch := first | omega | (simp only [size_put]; omega)) [getT_put, getT_put_ne, hst, g0]; done)); (focus (simp (disch := first | omega | (simp only [size_put]; omega)) [qv, qcall, vop, iop, eval_tmp, eval_const, getT_put, getT_put_ne, hst, g0]; try rfl))) | (apply ops_n; (focus rfl); (focus (first | omega | (simp only [size_put]; omega))); (focus (first | (left; simp (disch := first | omega | (simp only [size_put]; omega)) [getT_put, getT_put_ne, hst, g0]; done) | (right; simp (disch := first | omega | (simp only [size_put]; omega)) [getT_put, getT_put_ne]; done)))))
  refine ops_nil (SC.wp_cond (t := decide ((127 : Int) < (m : Int))) (by simp (disch := first | omega | (simp only [size_put]; omega)) [eval_tmp, eval_const, getT_put, getT_put_ne]) ?_)
  cases e1 : decide ((127 : Int) < (m : Int))
  · rw [if_neg (by simp)]
    have hm127 : m ≤ 127 := by simp at e1; omega
    rw [uvarint_lt hm127] at hx
    refine SC.wp_exit ?_
    simp only [Exit.then, Exit.inBlock, if_true]
    refine SC.wp_seq (SC.wp_reg ?_)
    have e8 : (m : Int) % 256 = (m : Int) := by omega
    iterate 3 (first | (apply ops_1; (focus (simp (disch := first | omega | (simp only [size_put]; omega)) [qv, qcall, vop, iop, eval_tmp, eval_const, getT_put, getT_put_ne, hst, g0, wrap_u8, e8]; try rfl))) | (apply ops_y; (focus rfl); (focus (first | omega | (simp only [size_put]; omega))); (focus (simp (disch := first | omega | (simp only [size_put]; omega)) [getT_put, getT_put_ne, hst, g0, wrap_u8, e8]; done)); (focus (simp (disch := first | omega | (simp only [size_put]; omega)) [qv, qcall, vop, iop, eval_tmp, eval_const, getT_put, getT_put_ne, hst, g0, wrap_u8, e8]; try rfl))) | (apply ops_n; (focus rfl); (focus (first | omega | (simp only [size_put]; omega))); (focus (first | (left; simp (disch := first | omega | (simp only [size_put]; omega)) [getT_put, getT_put_ne, hst, g0, wrap_u8, e8]; done) | (right; simp (disch := first | omega | (simp only [size_put]; omega)) [getT_put, getT_put_ne]; done)))))
    refine ops_u8app (B := w.heap.size) (dv := getT a 3) (xs := xs) (bs := [UInt8.ofNat m]) hU8s rfl (by decide) (by decide) ?_ ho hsz (by simp; omega) ?_ (by decide) (by simp only [size_put]; omega) ?_
    · simp only [cellsOf, List.map_cons, List.map_nil]
      rw [cell_ofNat (by omega)]
      simp (disch := first | omega | (simp only [size_put]; omega)) [eval_tmp, eval_const, getT_put, getT_put_ne, List.range']
    · simp (disch := first | omega | (simp only [size_put]; omega)) [eval_tmp, eval_const, getT_put, getT_put_ne]
    intro dv' w2 v1 q1 q2 q3
    repeat (first | (apply ops_1; (focus (simp (disch := first | omega | (simp only [size_put]; omega)) [qv, qcall, vop, iop, eval_tmp, eval_const, getT_put, getT_put_ne]; try rfl))) | (apply ops_y; (focus rfl); (focus (first | omega | (simp only [size_put]; omega))); (focus (simp (disch := first | omega | (simp only [size_put]; omega)) [getT_put, getT_put_ne]; done)); (focus (simp (disch := first | omega | (simp only [size_put]; omega)) [qv, qcall, vop, iop, eval_tmp, eval_const, getT_put, getT_put_ne]; try rfl))) | (apply ops_n; (focus rfl); (focus (first | omega | (simp only [size_put]; omega))); (focus (first | (left; simp (disch := first | omega | (simp only [size_put]; omega)) [getT_put, getT_put_ne]; done) | (right; simp (disch := first | omega | (simp only [size_put]; omega)) [getT_put, getT_put_ne]; done)))))
    refine ops_nil (SC.wp_ret (ret_tmp hr (by simp [defers_put, hd1]) ⟨dv', ?_, ?_, hbw.trans q2⟩))
    · simp (disch := first | omega | (simp only [size_put]; omega)) [eval_tmp, eval_const, getT_put, getT_put_ne]
    · rw [← hx]; exact q1
  · rw [if_pos rfl]
    have hm127 : 127 < m := by simp at e1; omega
    rw [uvarint_ge hm127] at hx hxl
    refine SC.wp_skip ?_
    simp only [Exit.then]
    refine SC.wp_block (SC.wp_seq (SC.wp_reg ?_))
    iterate 2 (first | (apply ops_1; (focus (simp (disch := first | omega | (simp only [size_put]; omega)) [qv, qcall, vop, iop, eval_tmp, eval_const, getT_put, getT_put_ne, g0]; try rfl))) | (apply ops_y; (focus rfl); (focus (first | omega | (simp only [size_put]; omega))); (focus (simp (disch := first | omega | (simp only [size_put]; omega)) [getT_put, getT_put_ne, g0]; done)); (focus (simp (disch := first | omega | (simp only [size_put]; omega)) [qv, qcall, vop, iop, eval_tmp, eval_const, getT_put, getT_put_ne, g0]; try rfl))) | (apply ops_n; (focus rfl); (focus (first | omega | (simp only [size_put]; omega))); (focus (first | (left; simp (disch := first | omega | (simp only [size_put]; omega)) [getT_put, getT_put_ne, g0]; done) | (right; simp (disch := first | omega | (simp only [size_put]; omega)) [getT_put, getT_put_ne]; done)))))
    refine opsw_none rfl (opw_and127 (m := m) (by simp (disch := first | omega | (simp only [size_put]; omega)) [eval_tmp, eval_const, getT_put, getT_put_ne, g0]) (by omega) ?_)
    have e8 : ((m % 128 : Nat) : Int) % 256 = ((m % 128 : Nat) : Int) := by omega
    generalize hm8 : m % 128 = m8 at *
    iterate 1 (first | (apply ops_1; (focus (simp (disch := first | omega | (simp only [size_put]; omega)) [qv, qcall, vop, iop, eval_tmp, eval_const, getT_put, getT_put_ne, hst, wrap_u8, e8]; try rfl))) | (apply ops_y; (focus rfl); (focus (first | omega | (simp only [size_put]; omega))); (focus (simp (disch := first | omega | (simp only [size_put]; omega)) [getT_put, getT_put_ne, hst, wrap_u8, e8]; done)); (focus (simp (disch := first | omega | (simp only [size_put]; omega)) [qv, qcall, vop, iop, eval_tmp, eval_const, getT_put, getT_put_ne, hst, wrap_u8, e8]; try rfl))) | (apply ops_n; (focus rfl); (focus (first | omega | (simp only [size_put]; omega))); (focus (first | (left; simp (disch := first | omega | (simp only [size_put]; omega)) [getT_put, getT_put_ne, hst, wrap_u8, e8]; done) | (right; simp (disch := first | omega | (simp only [size_put]; omega)) [getT_put, getT_put_ne]; done)))))
    refine opsw_none rfl (opw_or128 (m := m8) (by simp (disch := first | omega | (simp only [size_put]; omega)) [eval_tmp, eval_const, getT_put, getT_put_ne]) (by omega) ?_)
    refine ops_u8app (B := w.heap.size) (dv := getT a 3) (xs := xs) (bs := [UInt8.ofNat (m8 + 128)]) hU8s rfl (by decide) (by decide) ?_ ho hsz (by simp at hxl ⊢; omega) ?_ (by decide) (by simp only [size_put]; omega) ?_
    · simp only [cellsOf, List.map_cons, List.map_nil]
      rw [cell_ofNat (by omega)]
      simp (disch := first | omega | (simp only [size_put]; omega)) [eval_tmp, eval_const, getT_put, getT_put_ne, List.range']
    · simp (disch := first | omega | (simp only [size_put]; omega)) [eval_tmp, eval_const, getT_put, getT_put_ne]
    intro dv' w2 v1 q1 q2 q3
    repeat (first | (apply ops_1; (focus (simp (disch := first | omega | (simp only [size_put]; omega)) [qv, qcall, vop, iop, eval_tmp, eval_const, getT_put, getT_put_ne]; try rfl))) | (apply ops_y; (focus rfl); (focus (first | omega | (simp only [size_put]; omega))); (focus (simp (disch := first | omega | (simp only [size_put]; omega)) [getT_put, getT_put_ne]; done)); (focus (simp (disch := first | omega | (simp only [size_put]; omega)) [qv, qcall, vop, iop, eval_tmp, eval_const, getT_put, getT_put_ne]; try rfl))) | (apply ops_n; (focus rfl); (focus (first | omega | (simp only [size_put]; omega))); (focus (first | (left; simp (disch := first | omega | (simp only [size_put]; omega)) [getT_put, getT_put_ne]; done) | (right; simp (disch := first | omega | (simp only [size_put]; omega)) [getT_put, getT_put_ne]; done)))))
    refine ops_nil ?_
    simp only [Exit.then]
    refine SC.wp_reg ?_
    repeat (first | (apply ops_1; (focus (simp (disch := first | omega | (simp only [size_put]; omega)) [qv, qcall, vop, iop, eval_tmp, eval_const, getT_put, getT_put_ne, g0, IntKind.bits]; try rfl))) | (apply ops_y; (focus rfl); (focus (first | omega | (simp only [size_put]; omega))); (focus (simp (disch := first | omega | (simp only [size_put]; omega)) [getT_put, getT_put_ne, g0, IntKind.bits]; done)); (focus (simp (disch := first | omega | (simp only [size_put]; omega)) [qv, qcall, vop, iop, eval_tmp, eval_const, getT_put, getT_put_ne, g0, IntKind.bits]; try rfl))) | (apply ops_n; (focus rfl); (focus (first | omega | (simp only [size_put]; omega))); (focus (first | (left; simp (disch := first | omega | (simp only [size_put]; omega)) [getT_put, getT_put_ne, g0, IntKind.bits]; done) | (right; simp (disch := first | omega | (simp only [size_put]; omega)) [getT_put, getT_put_ne]; done)))))
    refine ops_nil ?_
    simp only [Exit.inBlock, Exit.then]
    have e128 : (m : Int) / 128 = ((m / 128 : Nat) : Int) := by omega
    refine ⟨⟨m / 128, xs ++ [UInt8.ofNat (m8 + 128)], by simp [size_put, hs1], by simp [defers_put, hd1], ?_, ?_, ?_, by omega, hbw.trans q2, q3⟩, ?_⟩
    · simp (disch := first | omega | (simp only [size_put]; omega)) [eval_tmp, eval_const, getT_put, getT_put_ne]
    · refine own_eq q1 ?_
      simp (disch := first | omega | (simp only [size_put]; omega)) [eval_tmp, eval_const, getT_put, getT_put_ne]
    · rw [List.append_assoc]; exact hx
    · simp (disch := first | omega | (simp only [size_put]; omega)) [eval_tmp, eval_const, getT_put, getT_put_ne, g0]; omega

end
end Go.Proofs.Ytioodpjcpadkoaa.K
