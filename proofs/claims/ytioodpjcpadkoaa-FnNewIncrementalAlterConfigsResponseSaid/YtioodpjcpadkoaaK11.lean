/- The functions that write numbers of fixed size. No condition. -/
import Derived.Test.YtioodpjcpadkoaaK8
namespace Go.Proofs.Ytioodpjcpadkoaa.K
open Go Go.RowKit Go.Proofs.Ytioodpjcpadkoaa.T
set_option linter.unusedSimpArgs false

/-- a call of a function of one, two, three parameters, by its stripped code -/
theorem fn_calls {P : Program} {f : FuncId} {fn : Func} {s : SC} {args : Array Value} {w : World} {R : Ending → World → Prop} {N : Nat} (hf : P.funcs[f]? = some fn) (hb : fn.body.map strip = some s) (hn : fn.ntmps = N)
    (hN : args.size ≤ N) (h : ∀ a0 : Act, a0.tmps.size = N → a0.defers = [] → (∀ i v, args[i]? = some v → getT a0 i = v) → s.wp P (bodyPost P fn R) a0 w) : Calls P f args w R := by
  obtain ⟨c, hc, hs⟩ : ∃ c, fn.body = some c ∧ strip c = s := by
    cases hc : fn.body with
    | none => simp [hc] at hb
    | some c => exact ⟨c, rfl, by simpa [hc] using hb⟩
  refine calls_of_wp hf hc (h _ ?_ rfl ?_ c hs)
  · simp; omega
  · intro i v hv
    have hlt : i < args.size := (Array.getElem?_eq_some_iff.1 hv).1
    simp only [getT, Array.getD_eq_getD_getElem?]
    rw [Array.getElem?_append_left hlt, hv]
    rfl

theorem fnOK_of {P : Program} {f : FuncId} {fn : Func} {s : SC} (hf : P.funcs[f]? = some fn) (hb : fn.body.map strip = some s) (hnm : (fn.name == "runtime.NumGoroutine") = false) : FnOK P f := by
  refine ⟨fn, hf, ?_, hnm⟩
  cases hc : fn.body with
  | none => simp [hc] at hb
  | some c => rfl

theorem ret_tmp {P : Program} {fn : Func} {R : Ending → World → Prop} {a : Act} {w : World} {r : Nat} (hr : fn.results = #[.tmp r]) (hd : a.defers = []) (hR : R (.returned (getT a r)) w) : bodyPost P fn R .ret a w :=
  bodyPost_ret (results_tmp hr _ _ _) hd hR

/-- octets of the call's own memory, written behind what stands there -/
theorem run_append_bytes {P : Program} {T tU8 : Nat} {w : World} {B m c : Nat} {dv : Value} {xs bs : Bytes} {ad : Addr} (ty : TypeId) (hT : u8sB P T tU8 = true) (ho : Own tU8 w B dv xs) (hB : B ≤ w.heap.size) (hm : bs.length = m)
    (hc : ∀ j u, bs[j]? = some u → w.cell? (ad.add j) = some (cell u)) (hlen : xs.length + bs.length ≤ lim) :
    ∃ dv' w', (Builtin.append_ #[T, T] ty #[dv, .slice (some ad) m c]).run P w = .ok dv' w' ∧ Own tU8 w' B dv' (xs ++ bs) ∧ Below B w w' ∧ B ≤ w'.heap.size := by
  obtain ⟨hu, i, hi, hz, hs, hby⟩ := u8s_of hT
  subst hm
  have hlim : lim = 70368744177664 := rfl
  obtain ⟨v', w', hr, h2, h3, _⟩ := run_append_own (P := P) w B T ty tU8 i (.int .u8 0) 1 1 hu hi hz hs hby rfl (by decide) dv xs.length (cellsOf xs) ho ad bs.length c (cellsOf bs) (by rw [cellsOf_length]; omega)
    (fun j v hv => by
      simp only [cellsOf, List.getElem?_map, Option.map_eq_some_iff] at hv
      obtain ⟨u, hu, rfl⟩ := hv
      exact hc j u hu)
    (fun v hv => by
      simp only [cellsOf, List.mem_map] at hv
      obtain ⟨u, _, rfl⟩ := hv
      rfl) (by simp only [maxLen]; omega) (by omega) hB
  refine ⟨v', w', hr, ?_, (Below.refl B w).grown h3 hB (fun k hk => own_u8 ho k hk), Nat.le_trans hB h3.size⟩
  unfold Own
  rw [cellsOf_append, List.length_append]
  exact h2

theorem fill_seq : ∀ (vs pre rest : List Value), vs.length = rest.length → (∀ v ∈ vs, v.cells = #[v]) →
    Instr.fill (fun i => some (i, 1)) (pre ++ rest).toArray ((List.range' pre.length vs.length).zip vs) = some (pre ++ vs).toArray
  | [], pre, rest, hl, _ => by
    cases rest with
    | nil => simp [Instr.fill]
    | cons x r => simp at hl
  | v :: vs, pre, rest, hl, hc => by
    cases rest with
    | nil => simp at hl
    | cons x r =>
      have hv := hc v (by simp)
      have ih := fill_seq vs (pre ++ [v]) r (by simpa using hl) (fun u hu => hc u (by simp [hu]))
      simp only [List.length_append, List.length_cons, List.length_nil, Nat.zero_add, List.append_assoc, List.cons_append, List.nil_append] at ih
      simp only [List.length_cons, List.range'_succ, List.zip_cons_cons, Instr.fill, hv]
      simp
      exact ih

theorem opw_buildU8s {P : Program} {a : Act} {w : World} {K : Act → World → Prop} {d : Option Tmp} {g : Option (Nat × Bool)} {T tU8 n : Nat} {parts : Array (Nat × Operand)} {bs : Bytes} (hT : u8sB P T tU8 = true) (hn : n = bs.length) (hs : n ≤ 16777216) (hn0 : 0 < n)
    (hp : (parts.map fun x => (x.1, a.eval x.2)).toList = (List.range' 0 bs.length).zip (cellsOf bs))
    (h : K (a.put d (.slice (some ⟨w.heap.size, 0, none⟩) bs.length bs.length)) (w.alloc (.cells (cellsOf bs).toArray tU8))) :
    opw P ⟨d, .buildSlice T n parts, g⟩ a w K := by
  subst hn
  obtain ⟨hu, i, hi, hz, hsz, _⟩ := u8s_of hT
  refine opw_value (w' := w.alloc (.cells (cellsOf bs).toArray tU8)) (by simp) (fun p hp2 => ?_) h
  have hzero : (Array.range bs.length).map (fun j => #[Value.int .u8 0][j % 1]!) = (List.replicate bs.length (Value.int .u8 0)).toArray := by
    apply Array.ext
    · simp
    · intro j h1 h2
      simp [Nat.mod_one]
  have hfill := fill_seq (cellsOf bs) [] (List.replicate bs.length (Value.int .u8 0)) (by simp [cellsOf_length]) (by
    intro v hv
    simp only [cellsOf, List.mem_map] at hv
    obtain ⟨u, _, rfl⟩ := hv
    rfl)
  simp only [List.nil_append, List.length_nil, cellsOf_length] at hfill
  have hne : ¬ bs.length = 0 := by omega
  have hparts : (parts.map fun x => (x.1, a.eval x.2)).toList = (List.range' 0 bs.length).zip (cellsOf bs) := hp
  simp only [execOp, hp2, Instr.buildSlice, sizeOf, typeInfo, zeroValue]
  simp [run_underlying hu, hi, hz, hsz, Value.cells, newRow, hne]
  rw [if_neg (by omega)]
  simp only [Array.toList_map] at hparts
  simp at hzero hfill
  simp [hzero, hparts, hfill]

theorem byteOf_cell (m : Int) : cell (T.byteOf m) = .int .u8 (m % 256) := by
  unfold cell T.byteOf
  congr 1
  have h1 : 0 ≤ m % 256 := Int.emod_nonneg _ (by decide)
  have h2 : m % 256 < 256 := Int.emod_lt_of_pos _ (by decide)
  rw [UInt8.toNat_ofNat_of_lt' (by show (m % 256).toNat < 256; omega)]
  omega

theorem wrap_u8 (m : Int) : IntKind.u8.wrap m = m % 256 := by
  simp only [IntKind.wrap, IntKind.bits, IntKind.signed, Bool.false_and]
  rfl
theorem wrap_u16 (m : Int) : IntKind.u16.wrap m = m % 65536 := by
  simp only [IntKind.wrap, IntKind.bits, IntKind.signed, Bool.false_and]
  rfl
theorem wrap_u32 (m : Int) : IntKind.u32.wrap m = m % 4294967296 := by
  simp only [IntKind.wrap, IntKind.bits, IntKind.signed, Bool.false_and]
  rfl
theorem wrap_u64 (m : Int) : IntKind.u64.wrap m = m % 18446744073709551616 := by
  simp only [IntKind.wrap, IntKind.bits, IntKind.signed, Bool.false_and]
  rfl

theorem opw_shr {P : Program} {a : Act} {w : World} {K : Act → World → Prop} {d : Option Tmp} {g : Option (Nat × Bool)} {T T' n : Nat} {k yk : IntKind} {x : Operand} {m : Int} (hx : a.eval x = .int k m) (hn : n ≤ k.bits)
    (h : K (a.put d (.int k (m / (2 ^ n : Int)))) w) : opw P ⟨d, .binOp .shr T x (.const (.int yk (n : Int))) T', g⟩ a w K := by
  refine opw_value (by simp) (fun p hp => ?_) h
  have e : m.fdiv (2 ^ n : Int) = m / (2 ^ n : Int) := Int.fdiv_eq_ediv_of_nonneg _ (Int.le_of_lt (Int.pow_pos (by decide)))
  have e2 : min n k.bits = n := Nat.min_eq_left hn
  have e3 : ¬ ((n : Int) < 0) := by omega
  simp [execOp, hp, hx, eval_const, eqGuard, binOp, Op.shift, e, e2, e3]

def sc_AppendBool (T0 : Nat) : SC := .seq (.reg [⟨some 4, .assign (.const (.slice none 0 0)), none⟩]) (.seq (.seq (.reg [mv 5 1]) (.cond (.tmp 5) (.seq (.reg [mv 6 0, ⟨some 7, .buildSlice T0 1 #[(0, (.const (.int .u8 1)))], none⟩, ⟨some 8, .call ⟨.builtin .append, #[(.tmp 6), (.tmp 7)], #[T0, T0]⟩, none⟩, asg 4 8]) (.ret)) (.skip))) (.seq (.reg [mv 9 0, ⟨some 10, .buildSlice T0 1 #[(0, (.const (.int .u8 0)))], none⟩, ⟨some 11, .call ⟨.builtin .append, #[(.tmp 9), (.tmp 10)], #[T0, T0]⟩, none⟩, asg 4 11]) (.ret)))
def sc_AppendInt8 (T0 T1 T2 : Nat) : SC := .seq (.reg [⟨some 4, .assign (.const (.slice none 0 0)), none⟩]) (.seq (.reg [mv 5 0, mv 6 1, ⟨some 7, .convert T0 T1 (.tmp 6), none⟩, ⟨some 8, .buildSlice T2 1 #[(0, (.tmp 7))], none⟩, ⟨some 9, .call ⟨.builtin .append, #[(.tmp 5), (.tmp 8)], #[T2, T2]⟩, none⟩, asg 4 9]) (.ret))
def sc_AppendInt16 (T0 T1 F0 : Nat) : SC := .seq (.reg [⟨some 4, .assign (.const (.slice none 0 0)), none⟩]) (.seq (.reg [mv 5 0, mv 6 1, ⟨some 7, .convert T0 T1 (.tmp 6), none⟩, cal 8 F0 [5, 7], asg 4 8]) (.ret))
def sc_AppendUint16 (T0 T1 T2 T3 : Nat) : SC := .seq (.reg [⟨some 4, .assign (.const (.slice none 0 0)), none⟩]) (.seq (.reg [mv 5 0, mv 6 1, ⟨some 7, .binOp .shr T0 (.tmp 6) (.const (.int .u64 8)) T1, none⟩, ⟨some 8, .convert T0 T2 (.tmp 7), none⟩, mv 9 1, ⟨some 10, .convert T0 T2 (.tmp 9), none⟩, ⟨some 11, .buildSlice T3 2 #[(0, (.tmp 8)), (1, (.tmp 10))], none⟩, ⟨some 12, .call ⟨.builtin .append, #[(.tmp 5), (.tmp 11)], #[T3, T3]⟩, none⟩, asg 4 12]) (.ret))
def sc_AppendInt32 (T0 T1 F0 : Nat) : SC := .seq (.reg [⟨some 4, .assign (.const (.slice none 0 0)), none⟩]) (.seq (.reg [mv 5 0, mv 6 1, ⟨some 7, .convert T0 T1 (.tmp 6), none⟩, cal 8 F0 [5, 7], asg 4 8]) (.ret))
def sc_AppendUint32 (T0 T1 T2 T3 : Nat) : SC := .seq (.reg [⟨some 4, .assign (.const (.slice none 0 0)), none⟩]) (.seq (.reg [mv 5 0, mv 6 1, ⟨some 7, .binOp .shr T0 (.tmp 6) (.const (.int .u64 24)) T1, none⟩, ⟨some 8, .convert T0 T2 (.tmp 7), none⟩, mv 9 1, ⟨some 10, .binOp .shr T0 (.tmp 9) (.const (.int .u64 16)) T1, none⟩, ⟨some 11, .convert T0 T2 (.tmp 10), none⟩, mv 12 1, ⟨some 13, .binOp .shr T0 (.tmp 12) (.const (.int .u64 8)) T1, none⟩, ⟨some 14, .convert T0 T2 (.tmp 13), none⟩, mv 15 1, ⟨some 16, .convert T0 T2 (.tmp 15), none⟩, ⟨some 17, .buildSlice T3 4 #[(0, (.tmp 8)), (1, (.tmp 11)), (2, (.tmp 14)), (3, (.tmp 16))], none⟩, ⟨some 18, .call ⟨.builtin .append, #[(.tmp 5), (.tmp 17)], #[T3, T3]⟩, none⟩, asg 4 18]) (.ret))
def sc_AppendInt64 (T0 T1 F0 : Nat) : SC := .seq (.reg [⟨some 4, .assign (.const (.slice none 0 0)), none⟩]) (.seq (.reg [mv 5 0, mv 6 1, ⟨some 7, .convert T0 T1 (.tmp 6), none⟩, cal 8 F0 [5, 7], asg 4 8]) (.ret))
def sc_appendUint64 (T0 T1 T2 T3 : Nat) : SC := .seq (.reg [⟨some 4, .assign (.const (.slice none 0 0)), none⟩]) (.seq (.reg [mv 5 0, mv 6 1, ⟨some 7, .binOp .shr T0 (.tmp 6) (.const (.int .u64 56)) T1, none⟩, ⟨some 8, .convert T0 T2 (.tmp 7), none⟩, mv 9 1, ⟨some 10, .binOp .shr T0 (.tmp 9) (.const (.int .u64 48)) T1, none⟩, ⟨some 11, .convert T0 T2 (.tmp 10), none⟩, mv 12 1, ⟨some 13, .binOp .shr T0 (.tmp 12) (.const (.int .u64 40)) T1, none⟩, ⟨some 14, .convert T0 T2 (.tmp 13), none⟩, mv 15 1, ⟨some 16, .binOp .shr T0 (.tmp 15) (.const (.int .u64 32)) T1, none⟩, ⟨some 17, .convert T0 T2 (.tmp 16), none⟩, mv 18 1, ⟨some 19, .binOp .shr T0 (.tmp 18) (.const (.int .u64 24)) T1, none⟩, ⟨some 20, .convert T0 T2 (.tmp 19), none⟩, mv 21 1, ⟨some 22, .binOp .shr T0 (.tmp 21) (.const (.int .u64 16)) T1, none⟩, ⟨some 23, .convert T0 T2 (.tmp 22), none⟩, mv 24 1, ⟨some 25, .binOp .shr T0 (.tmp 24) (.const (.int .u64 8)) T1, none⟩, ⟨some 26, .convert T0 T2 (.tmp 25), none⟩, mv 27 1, ⟨some 28, .convert T0 T2 (.tmp 27), none⟩, ⟨some 29, .buildSlice T3 8 #[(0, (.tmp 8)), (1, (.tmp 11)), (2, (.tmp 14)), (3, (.tmp 17)), (4, (.tmp 20)), (5, (.tmp 23)), (6, (.tmp 26)), (7, (.tmp 28))], none⟩, ⟨some 30, .call ⟨.builtin .append, #[(.tmp 5), (.tmp 29)], #[T3, T3]⟩, none⟩, asg 4 30]) (.ret))

section
variable {P : Program} {tU8 : Nat}

/-- the shape of what a function that writes is proved to do -/
theorem AP_of {f : FuncId} {fn : Func} {s : SC} {args : Array Value} {pre : World → Nat → Prop} {out : Bytes} {N : Nat} (hf : P.funcs[f]? = some fn) (hb : fn.body.map strip = some s) (hnm : (fn.name == "runtime.NumGoroutine") = false) (hn : fn.ntmps = N) (hN : args.size + 1 ≤ N)
    (h : ∀ (w : World) (B : Nat) (dv : Value) (xs : Bytes) (a0 : Act), Own tU8 w B dv xs → B ≤ w.heap.size → xs.length + out.length ≤ lim → pre w B → a0.tmps.size = N → a0.defers = [] → getT a0 0 = dv → (∀ i v, args[i]? = some v → getT a0 (i + 1) = v) →
      s.wp P (bodyPost P fn fun e w' => ∃ dv', e = .returned dv' ∧ Own tU8 w' B dv' (xs ++ out) ∧ Below B w w' ∧ B ≤ w'.heap.size) a0 w) : AP P tU8 f args pre out := by
  refine ⟨fnOK_of hf hb hnm, fun w B dv xs ho hB hl hp => ?_⟩
  refine fn_calls hf hb hn (by rw [Array.size_append, Nat.add_comm]; exact hN) fun a0 hs hd ha => ?_
  refine h w B dv xs a0 ho hB hl hp hs hd (ha 0 dv (by rw [Array.getElem?_append_left (Nat.lt_succ_self 0)]; rfl)) (fun i v hv => ha (i + 1) v ?_)
  rw [Array.getElem?_append_right (Nat.le_add_left 1 i)]
  exact hv

/-- 'return append(dst, ..)' of octets that stand in slots -/
theorem ops_retBytes {all : List SOp} {a : Act} {w : World} {B T td ts tr r n : Nat} {dv : Value} {xs bs : Bytes} {parts : Array (Nat × Operand)} {Q : Exit → Act → World → Prop} (hT : u8sB P T tU8 = true) (hn : n = bs.length) (hs : n ≤ 100) (hn0 : 0 < n)
    (hp : (parts.map fun x => (x.1, a.eval x.2)).toList = (List.range' 0 bs.length).zip (cellsOf bs)) (ho : Own tU8 w B dv xs) (hB : B ≤ w.heap.size) (hlen : xs.length + bs.length ≤ lim) (hdv : getT a td = dv) (hne : td ≠ ts) (hsz : ts < a.tmps.size ∧ tr < a.tmps.size)
    (hK : ∀ dv' w' (a' : Act), Own tU8 w' B dv' (xs ++ bs) → Below B w w' → B ≤ w'.heap.size → a'.tmps.size = a.tmps.size → a'.defers = a.defers → getT a' r = dv' → Q .normal a' w') (hr : r < a.tmps.size) :
    opsw P all [⟨some ts, .buildSlice T n parts, none⟩, ⟨some tr, .call ⟨.builtin .append, #[.tmp td, .tmp ts], #[T, T]⟩, none⟩, asg r tr] (Q .normal) a w := by
  refine opsw_none rfl (opw_buildU8s hT hn (by omega) hn0 hp (opsw_none rfl ?_))
  have hown : Own tU8 (w.alloc (.cells (cellsOf bs).toArray tU8)) B dv xs := ho.alloc _
  obtain ⟨dv', w', hrun, h1, h2, h3⟩ := run_append_bytes (P := P) (T := T) (tU8 := tU8) (B := B) (c := bs.length) (m := bs.length) (ad := ⟨w.heap.size, 0, none⟩) (bs := bs) T hT hown (by simp; omega) rfl
    (fun j u hu => by
      rw [add_none, cell_of_row _ _ _ _ _ _ (heap_alloc_new w _)]
      simp [cellsOf, hu]) hlen
  refine opw_value (v := dv') (w' := w') (by simp) ?_ (ops_asg (ops_nil ?_))
  · intro o hop
    have e1 : getT (a.put (some ts) (.slice (some ⟨w.heap.size, 0, none⟩) bs.length bs.length)) td = dv := by rw [getT_put_ne hne]; exact hdv
    have e2 : getT (a.put (some ts) (.slice (some ⟨w.heap.size, 0, none⟩) bs.length bs.length)) ts = .slice (some ⟨w.heap.size, 0, none⟩) bs.length bs.length := getT_put hsz.1
    have hrun' : (Builtin.append_ #[T, T] o.type #[dv, .slice (some ⟨w.heap.size, 0, none⟩) bs.length bs.length]).run P (w.alloc (.cells (cellsOf bs).toArray tU8)) = .ok dv' w' := hrun
    simp [execOp, hop, resolve, invoke, builtin, eval_tmp, e1, e2, hrun']
  · refine hK dv' w' _ h1 (((Below.refl B w).alloc hB _).trans h2) h3 (by simp [size_put]) (by simp [defers_put]) ?_
    rw [getT_put (by simp only [size_put]; omega), getT_put (by simp only [size_put]; omega)]

theorem appendBool_ok {f : FuncId} {fn : Func} {T : Nat} (hf : P.funcs[f]? = some fn) (hb : fn.body.map strip = some (sc_AppendBool T)) (hnm : (fn.name == "runtime.NumGoroutine") = false) (hn : fn.ntmps = 12) (hr : fn.results = #[.tmp 4]) (hT : u8sB P T tU8 = true) (x : Bool) :
    AP P tU8 f #[.bool x] (fun _ _ => True) [if x then 1 else 0] := by
  refine AP_of hf hb hnm hn (by simp) fun w B dv xs a0 ho hB hl _ hs hd h0 ha => ?_
  have h1 := ha 0 (.bool x) rfl
  refine SC.wp_seq (SC.wp_reg (opsw_none rfl (opw_assign (ops_nil ?_))))
  refine SC.wp_seq (SC.wp_seq (SC.wp_reg (ops_mv (ops_nil ?_))))
  refine SC.wp_cond (t := x) ?_ ?_
  · rw [eval_tmp, getT_put (by simp only [size_put]; omega), getT_put_ne (by decide)]
    exact h1
  cases x with
  | true =>
    rw [if_pos rfl]
    refine SC.wp_seq (SC.wp_reg (ops_mv (ops_retBytes (B := B) (dv := dv) (xs := xs) (bs := [1]) hT rfl (by decide) (by decide) (by simp [cellsOf, cell, eval_const]) ho hB hl ?_ (by decide) (by simp only [size_put]; omega) ?_ (by simp only [size_put]; omega))))
    · simp (disch := first | omega | (simp only [size_put]; omega)) [getT_put, getT_put_ne, h0]
    · intro dv' w' a' q1 q2 q3 q4 q5 q6
      refine SC.wp_ret ?_
      try simp only [Exit.then]
      exact ret_tmp hr (by rw [q5]; simp [defers_put, hd]) ⟨dv', by rw [q6], q1, q2, q3⟩
  | false =>
    rw [if_neg (by simp)]
    refine SC.wp_skip ?_
    refine SC.wp_seq (SC.wp_reg (ops_mv (ops_retBytes (B := B) (dv := dv) (xs := xs) (bs := [0]) hT rfl (by decide) (by decide) (by simp [cellsOf, cell, eval_const]) ho hB hl ?_ (by decide) (by simp only [size_put]; omega) ?_ (by simp only [size_put]; omega))))
    · simp (disch := first | omega | (simp only [size_put]; omega)) [getT_put, getT_put_ne, h0]
    · intro dv' w' a' q1 q2 q3 q4 q5 q6
      refine SC.wp_ret ?_
      try simp only [Exit.then]
      exact ret_tmp hr (by rw [q5]; simp [defers_put, hd]) ⟨dv', by rw [q6], q1, q2, q3⟩

theorem appendI8_ok {f : FuncId} {fn : Func} {T0 T1 T2 : Nat} (hf : P.funcs[f]? = some fn) (hb : fn.body.map strip = some (sc_AppendInt8 T0 T1 T2)) (hnm : (fn.name == "runtime.NumGoroutine") = false) (hn : fn.ntmps = 10) (hr : fn.results = #[.tmp 4]) (hT : u8sB P T2 tU8 = true)
    (h0 : intB P T0 .i8 = true) (h1 : intB P T1 .u8 = true) (n : Int) : AP P tU8 f #[.int .i8 n] (fun _ _ => True) (fixed n 1) := by
  refine AP_of hf hb hnm hn (by simp) fun w B dv xs a0 ho hB hl _ hs hd hh0 ha => ?_
  have hx := ha 0 (.int .i8 n) rfl
  refine SC.wp_seq (SC.wp_reg (opsw_none rfl (opw_assign (ops_nil ?_))))
  refine SC.wp_seq (SC.wp_reg (ops_mv (ops_mv (opsw_none rfl (opw_convert h0 h1 (n := n) ?_ (ops_retBytes (B := B) (dv := dv) (xs := xs) (bs := fixed n 1) hT rfl (by decide) (by decide) ?_ ho hB hl ?_ (by decide) (by simp only [size_put]; omega) ?_ (by simp only [size_put]; omega)))))))
  · simp (disch := first | omega | (simp only [size_put]; omega)) [eval_tmp, getT_put, getT_put_ne]
    exact hx
  · simp (disch := first | omega | (simp only [size_put]; omega)) [fixed, cellsOf, byteOf_cell, wrap_u8, eval_tmp, getT_put, getT_put_ne, List.range']
  · simp (disch := first | omega | (simp only [size_put]; omega)) [getT_put, getT_put_ne, hh0]
  · intro dv' w' a' q1 q2 q3 q4 q5 q6
    refine SC.wp_ret ?_
    try simp only [Exit.then]
    exact ret_tmp hr (by rw [q5]; simp [defers_put, hd]) ⟨dv', by rw [q6], q1, q2, q3⟩

theorem appendU16_ok {f : FuncId} {fn : Func} {T0 T1 T2 T3 : Nat} (hf : P.funcs[f]? = some fn) (hb : fn.body.map strip = some (sc_AppendUint16 T0 T1 T2 T3)) (hnm : (fn.name == "runtime.NumGoroutine") = false) (hn : fn.ntmps = 13) (hr : fn.results = #[.tmp 4]) (hT : u8sB P T3 tU8 = true)
    (h0 : intB P T0 .u16 = true) (h1 : intB P T2 .u8 = true) (n : Int) : AP P tU8 f #[.int .u16 n] (fun _ _ => True) (fixed n 2) := by
  refine AP_of hf hb hnm hn (by simp) fun w B dv xs a0 ho hB hl _ hs hd hh0 ha => ?_
  have hx := ha 0 (.int .u16 n) rfl
  refine SC.wp_seq (SC.wp_reg (opsw_none rfl (opw_assign (ops_nil ?_))))
  refine SC.wp_seq (SC.wp_reg (ops_mv (ops_mv (opsw_none rfl (opw_shr (n := 8) (k := .u16) (m := n) ?_ (by decide) (opsw_none rfl (opw_convert h0 h1 (n := n / (2 ^ 8 : Int)) ?_ (ops_mv (opsw_none rfl (opw_convert h0 h1 (n := n) ?_
    (ops_retBytes (B := B) (dv := dv) (xs := xs) (bs := fixed n 2) hT rfl (by decide) (by decide) ?_ ho hB hl ?_ (by decide) (by simp only [size_put]; omega) ?_ (by simp only [size_put]; omega))))))))))))
  · simp (disch := first | omega | (simp only [size_put]; omega)) [eval_tmp, getT_put, getT_put_ne]
    exact hx
  · simp (disch := first | omega | (simp only [size_put]; omega)) [eval_tmp, getT_put]
  · simp (disch := first | omega | (simp only [size_put]; omega)) [eval_tmp, getT_put, getT_put_ne]
    exact hx
  · simp (disch := first | omega | (simp only [size_put]; omega)) [fixed, cellsOf, byteOf_cell, wrap_u8, eval_tmp, getT_put, getT_put_ne, List.range']
  · simp (disch := first | omega | (simp only [size_put]; omega)) [getT_put, getT_put_ne, hh0]
  · intro dv' w' a' q1 q2 q3 q4 q5 q6
    refine SC.wp_ret ?_
    try simp only [Exit.then]
    exact ret_tmp hr (by rw [q5]; simp [defers_put, hd]) ⟨dv', by rw [q6], q1, q2, q3⟩

theorem appendU32_ok {f : FuncId} {fn : Func} {T0 T1 T2 T3 : Nat} (hf : P.funcs[f]? = some fn) (hb : fn.body.map strip = some (sc_AppendUint32 T0 T1 T2 T3)) (hnm : (fn.name == "runtime.NumGoroutine") = false) (hn : fn.ntmps = 19) (hr : fn.results = #[.tmp 4]) (hT : u8sB P T3 tU8 = true)
    (h0 : intB P T0 .u32 = true) (h1 : intB P T2 .u8 = true) (n : Int) : AP P tU8 f #[.int .u32 n] (fun _ _ => True) (fixed n 4) := by
  refine AP_of hf hb hnm hn (by simp) fun w B dv xs a0 ho hB hl _ hs hd hh0 ha => ?_
  have hx := ha 0 (.int .u32 n) rfl
  refine SC.wp_seq (SC.wp_reg (opsw_none rfl (opw_assign (ops_nil ?_))))
  refine SC.wp_seq (SC.wp_reg (ops_mv (ops_mv (opsw_none rfl (opw_shr (n := 24) (k := .u32) (m := n) ?_ (by decide) (opsw_none rfl (opw_convert h0 h1 (n := n / (2 ^ 24 : Int)) ?_ (ops_mv (opsw_none rfl (opw_shr (n := 16) (k := .u32) (m := n) ?_ (by decide) (opsw_none rfl (opw_convert h0 h1 (n := n / (2 ^ 16 : Int)) ?_ (ops_mv (opsw_none rfl (opw_shr (n := 8) (k := .u32) (m := n) ?_ (by decide) (opsw_none rfl (opw_convert h0 h1 (n := n / (2 ^ 8 : Int)) ?_ (ops_mv (opsw_none rfl (opw_convert h0 h1 (n := n) ?_
    (ops_retBytes (B := B) (dv := dv) (xs := xs) (bs := fixed n 4) hT rfl (by decide) (by decide) ?_ ho hB hl ?_ (by decide) (by simp only [size_put]; omega) ?_ (by simp only [size_put]; omega))))))))))))))))))))))
  · simp (disch := first | omega | (simp only [size_put]; omega)) [eval_tmp, getT_put, getT_put_ne]
    exact hx
  · simp (disch := first | omega | (simp only [size_put]; omega)) [eval_tmp, getT_put]
  · simp (disch := first | omega | (simp only [size_put]; omega)) [eval_tmp, getT_put, getT_put_ne]
    exact hx
  · simp (disch := first | omega | (simp only [size_put]; omega)) [eval_tmp, getT_put]
  · simp (disch := first | omega | (simp only [size_put]; omega)) [eval_tmp, getT_put, getT_put_ne]
    exact hx
  · simp (disch := first | omega | (simp only [size_put]; omega)) [eval_tmp, getT_put]
  · simp (disch := first | omega | (simp only [size_put]; omega)) [eval_tmp, getT_put, getT_put_ne]
    exact hx
  · simp (disch := first | omega | (simp only [size_put]; omega)) [fixed, cellsOf, byteOf_cell, wrap_u8, eval_tmp, getT_put, getT_put_ne, List.range']
  · simp (disch := first | omega | (simp only [size_put]; omega)) [getT_put, getT_put_ne, hh0]
  · intro dv' w' a' q1 q2 q3 q4 q5 q6
    refine SC.wp_ret ?_
    try simp only [Exit.then]
    exact ret_tmp hr (by rw [q5]; simp [defers_put, hd]) ⟨dv', by rw [q6], q1, q2, q3⟩

theorem appendU64_ok {f : FuncId} {fn : Func} {T0 T1 T2 T3 : Nat} (hf : P.funcs[f]? = some fn) (hb : fn.body.map strip = some (sc_appendUint64 T0 T1 T2 T3)) (hnm : (fn.name == "runtime.NumGoroutine") = false) (hn : fn.ntmps = 31) (hr : fn.results = #[.tmp 4]) (hT : u8sB P T3 tU8 = true)
    (h0 : intB P T0 .u64 = true) (h1 : intB P T2 .u8 = true) (n : Int) : AP P tU8 f #[.int .u64 n] (fun _ _ => True) (fixed n 8) := by
  refine AP_of hf hb hnm hn (by simp) fun w B dv xs a0 ho hB hl _ hs hd hh0 ha => ?_
  have hx := ha 0 (.int .u64 n) rfl
  refine SC.wp_seq (SC.wp_reg (opsw_none rfl (opw_assign (ops_nil ?_))))
  refine SC.wp_seq (SC.wp_reg (ops_mv (ops_mv (opsw_none rfl (opw_shr (n := 56) (k := .u64) (m := n) ?_ (by decide) (opsw_none rfl (opw_convert h0 h1 (n := n / (2 ^ 56 : Int)) ?_ (ops_mv (opsw_none rfl (opw_shr (n := 48) (k := .u64) (m := n) ?_ (by decide) (opsw_none rfl (opw_convert h0 h1 (n := n / (2 ^ 48 : Int)) ?_ (ops_mv (opsw_none rfl (opw_shr (n := 40) (k := .u64) (m := n) ?_ (by decide) (opsw_none rfl (opw_convert h0 h1 (n := n / (2 ^ 40 : Int)) ?_ (ops_mv (opsw_none rfl (opw_shr (n := 32) (k := .u64) (m := n) ?_ (by decide) (opsw_none rfl (opw_convert h0 h1 (n := n / (2 ^ 32 : Int)) ?_ (ops_mv (opsw_none rfl (opw_shr (n := 24) (k := .u64) (m := n) ?_ (by decide) (opsw_none rfl (opw_convert h0 h1 (n := n / (2 ^ 24 : Int)) ?_ (ops_mv (opsw_none rfl (opw_shr (n := 16) (k := .u64) (m := n) ?_ (by decide) (opsw_none rfl (opw_convert h0 h1 (n := n / (2 ^ 16 : Int)) ?_ (ops_mv (opsw_none rfl (opw_shr (n := 8) (k := .u64) (m := n) ?_ (by decide) (opsw_none rfl (opw_convert h0 h1 (n := n / (2 ^ 8 : Int)) ?_ (ops_mv (opsw_none rfl (opw_convert h0 h1 (n := n) ?_
    (ops_retBytes (B := B) (dv := dv) (xs := xs) (bs := fixed n 8) hT rfl (by decide) (by decide) ?_ ho hB hl ?_ (by decide) (by simp only [size_put]; omega) ?_ (by simp only [size_put]; omega))))))))))))))))))))))))))))))))))))))))))
  · simp (disch := first | omega | (simp only [size_put]; omega)) [eval_tmp, getT_put, getT_put_ne]
    exact hx
  · simp (disch := first | omega | (simp only [size_put]; omega)) [eval_tmp, getT_put]
  · simp (disch := first | omega | (simp only [size_put]; omega)) [eval_tmp, getT_put, getT_put_ne]
    exact hx
  · simp (disch := first | omega | (simp only [size_put]; omega)) [eval_tmp, getT_put]
  · simp (disch := first | omega | (simp only [size_put]; omega)) [eval_tmp, getT_put, getT_put_ne]
    exact hx
  · simp (disch := first | omega | (simp only [size_put]; omega)) [eval_tmp, getT_put]
  · simp (disch := first | omega | (simp only [size_put]; omega)) [eval_tmp, getT_put, getT_put_ne]
    exact hx
  · simp (disch := first | omega | (simp only [size_put]; omega)) [eval_tmp, getT_put]
  · simp (disch := first | omega | (simp only [size_put]; omega)) [eval_tmp, getT_put, getT_put_ne]
    exact hx
  · simp (disch := first | omega | (simp only [size_put]; omega)) [eval_tmp, getT_put]
  · simp (disch := first | omega | (simp only [size_put]; omega)) [eval_tmp, getT_put, getT_put_ne]
    exact hx
  · simp (disch := first | omega | (simp only [size_put]; omega)) [eval_tmp, getT_put]
  · simp (disch := first | omega | (simp only [size_put]; omega)) [eval_tmp, getT_put, getT_put_ne]
    exact hx
  · simp (disch := first | omega | (simp only [size_put]; omega)) [eval_tmp, getT_put]
  · simp (disch := first | omega | (simp only [size_put]; omega)) [eval_tmp, getT_put, getT_put_ne]
    exact hx
  · simp (disch := first | omega | (simp only [size_put]; omega)) [fixed, cellsOf, byteOf_cell, wrap_u8, eval_tmp, getT_put, getT_put_ne, List.range']
  · simp (disch := first | omega | (simp only [size_put]; omega)) [getT_put, getT_put_ne, hh0]
  · intro dv' w' a' q1 q2 q3 q4 q5 q6
    refine SC.wp_ret ?_
    try simp only [Exit.then]
    exact ret_tmp hr (by rw [q5]; simp [defers_put, hd]) ⟨dv', by rw [q6], q1, q2, q3⟩

theorem fixed_wrap_u16 (n : Int) : fixed (IntKind.u16.wrap n) 2 = fixed n 2 := by
  have e1 : n % 65536 / 256 % 256 = n / 256 % 256 := by omega
  have e2 : n % 65536 % 256 = n % 256 := by omega
  simp [fixed, wrap_u16, T.byteOf, e1, e2]
theorem fixed_wrap_u32 (n : Int) : fixed (IntKind.u32.wrap n) 4 = fixed n 4 := by
  have e1 : n % 4294967296 / 256 % 256 = n / 256 % 256 := by omega
  have e2 : n % 4294967296 % 256 = n % 256 := by omega
  have e3 : n % 4294967296 / 65536 % 256 = n / 65536 % 256 := by omega
  have e4 : n % 4294967296 / 16777216 % 256 = n / 16777216 % 256 := by omega
  simp [fixed, wrap_u32, T.byteOf, e1, e2, e3, e4]
theorem fixed_wrap_u64 (n : Int) : fixed (IntKind.u64.wrap n) 8 = fixed n 8 := by
  have e1 : n % 18446744073709551616 / 256 % 256 = n / 256 % 256 := by omega
  have e2 : n % 18446744073709551616 % 256 = n % 256 := by omega
  have e3 : n % 18446744073709551616 / 65536 % 256 = n / 65536 % 256 := by omega
  have e4 : n % 18446744073709551616 / 16777216 % 256 = n / 16777216 % 256 := by omega
  have e5 : n % 18446744073709551616 / 4294967296 % 256 = n / 4294967296 % 256 := by omega
  have e6 : n % 18446744073709551616 / 1099511627776 % 256 = n / 1099511627776 % 256 := by omega
  have e7 : n % 18446744073709551616 / 281474976710656 % 256 = n / 281474976710656 % 256 := by omega
  have e8 : n % 18446744073709551616 / 72057594037927936 % 256 = n / 72057594037927936 % 256 := by omega
  simp [fixed, wrap_u64, T.byteOf, e1, e2, e3, e4, e5, e6, e7, e8]

theorem appendI16_ok {f g : FuncId} {fn : Func} {T0 T1 : Nat} (hf : P.funcs[f]? = some fn) (hb : fn.body.map strip = some (sc_AppendInt16 T0 T1 g)) (hnm : (fn.name == "runtime.NumGoroutine") = false) (hn : fn.ntmps = 9) (hr : fn.results = #[.tmp 4])
    (h0 : intB P T0 .i16 = true) (h1 : intB P T1 .u16 = true) (hg : ∀ m, AP P tU8 g #[.int .u16 m] (fun _ _ => True) (fixed m 2)) (n : Int) : AP P tU8 f #[.int .i16 n] (fun _ _ => True) (fixed n 2) := by
  refine AP_of hf hb hnm hn (by simp) fun w B dv xs a0 ho hB hl _ hs hd hh0 ha => ?_
  have hx := ha 0 (.int .i16 n) rfl
  have hfx : fixed (IntKind.u16.wrap n) 2 = fixed n 2 := fixed_wrap_u16 n
  refine SC.wp_seq (SC.wp_reg (opsw_none rfl (opw_assign (ops_nil ?_))))
  refine SC.wp_seq (SC.wp_reg (ops_mv (ops_mv (opsw_none rfl (opw_convert h0 h1 (n := n) ?_ ?_)))))
  · simp (disch := first | omega | (simp only [size_put]; omega)) [eval_tmp, getT_put, getT_put_ne]
    exact hx
  refine ops_cal (hg (IntKind.u16.wrap n)).1 (R := fun e w' => ∃ dv', e = .returned dv' ∧ Own tU8 w' B dv' (xs ++ fixed n 2) ∧ Below B w w' ∧ B ≤ w'.heap.size) ?_ ?_
  · have hc := (hg (IntKind.u16.wrap n)).2 w B dv xs ho hB (by rw [hfx]; exact hl) trivial
    rw [hfx] at hc
    refine Eq.mp (congrArg (fun z => Calls P g z w _) ?_) hc
    simp (disch := first | omega | (simp only [size_put]; omega)) [getT_put, getT_put_ne, hh0]
  · rintro e w' ⟨dv', rfl, q1, q2, q3⟩
    refine ⟨dv', rfl, ops_asg (ops_nil ?_)⟩
    refine SC.wp_ret ?_
    try simp only [Exit.then]
    refine ret_tmp hr (by simp [defers_put, hd]) ⟨dv', ?_, q1, q2, q3⟩
    simp (disch := first | omega | (simp only [size_put]; omega)) [getT_put]

theorem appendI32_ok {f g : FuncId} {fn : Func} {T0 T1 : Nat} (hf : P.funcs[f]? = some fn) (hb : fn.body.map strip = some (sc_AppendInt32 T0 T1 g)) (hnm : (fn.name == "runtime.NumGoroutine") = false) (hn : fn.ntmps = 9) (hr : fn.results = #[.tmp 4])
    (h0 : intB P T0 .i32 = true) (h1 : intB P T1 .u32 = true) (hg : ∀ m, AP P tU8 g #[.int .u32 m] (fun _ _ => True) (fixed m 4)) (n : Int) : AP P tU8 f #[.int .i32 n] (fun _ _ => True) (fixed n 4) := by
  refine AP_of hf hb hnm hn (by simp) fun w B dv xs a0 ho hB hl _ hs hd hh0 ha => ?_
  have hx := ha 0 (.int .i32 n) rfl
  have hfx : fixed (IntKind.u32.wrap n) 4 = fixed n 4 := fixed_wrap_u32 n
  refine SC.wp_seq (SC.wp_reg (opsw_none rfl (opw_assign (ops_nil ?_))))
  refine SC.wp_seq (SC.wp_reg (ops_mv (ops_mv (opsw_none rfl (opw_convert h0 h1 (n := n) ?_ ?_)))))
  · simp (disch := first | omega | (simp only [size_put]; omega)) [eval_tmp, getT_put, getT_put_ne]
    exact hx
  refine ops_cal (hg (IntKind.u32.wrap n)).1 (R := fun e w' => ∃ dv', e = .returned dv' ∧ Own tU8 w' B dv' (xs ++ fixed n 4) ∧ Below B w w' ∧ B ≤ w'.heap.size) ?_ ?_
  · have hc := (hg (IntKind.u32.wrap n)).2 w B dv xs ho hB (by rw [hfx]; exact hl) trivial
    rw [hfx] at hc
    refine Eq.mp (congrArg (fun z => Calls P g z w _) ?_) hc
    simp (disch := first | omega | (simp only [size_put]; omega)) [getT_put, getT_put_ne, hh0]
  · rintro e w' ⟨dv', rfl, q1, q2, q3⟩
    refine ⟨dv', rfl, ops_asg (ops_nil ?_)⟩
    refine SC.wp_ret ?_
    try simp only [Exit.then]
    refine ret_tmp hr (by simp [defers_put, hd]) ⟨dv', ?_, q1, q2, q3⟩
    simp (disch := first | omega | (simp only [size_put]; omega)) [getT_put]

theorem appendI64_ok {f g : FuncId} {fn : Func} {T0 T1 : Nat} (hf : P.funcs[f]? = some fn) (hb : fn.body.map strip = some (sc_AppendInt64 T0 T1 g)) (hnm : (fn.name == "runtime.NumGoroutine") = false) (hn : fn.ntmps = 9) (hr : fn.results = #[.tmp 4])
    (h0 : intB P T0 .i64 = true) (h1 : intB P T1 .u64 = true) (hg : ∀ m, AP P tU8 g #[.int .u64 m] (fun _ _ => True) (fixed m 8)) (n : Int) : AP P tU8 f #[.int .i64 n] (fun _ _ => True) (fixed n 8) := by
  refine AP_of hf hb hnm hn (by simp) fun w B dv xs a0 ho hB hl _ hs hd hh0 ha => ?_
  have hx := ha 0 (.int .i64 n) rfl
  have hfx : fixed (IntKind.u64.wrap n) 8 = fixed n 8 := fixed_wrap_u64 n
  refine SC.wp_seq (SC.wp_reg (opsw_none rfl (opw_assign (ops_nil ?_))))
  refine SC.wp_seq (SC.wp_reg (ops_mv (ops_mv (opsw_none rfl (opw_convert h0 h1 (n := n) ?_ ?_)))))
  · simp (disch := first | omega | (simp only [size_put]; omega)) [eval_tmp, getT_put, getT_put_ne]
    exact hx
  refine ops_cal (hg (IntKind.u64.wrap n)).1 (R := fun e w' => ∃ dv', e = .returned dv' ∧ Own tU8 w' B dv' (xs ++ fixed n 8) ∧ Below B w w' ∧ B ≤ w'.heap.size) ?_ ?_
  · have hc := (hg (IntKind.u64.wrap n)).2 w B dv xs ho hB (by rw [hfx]; exact hl) trivial
    rw [hfx] at hc
    refine Eq.mp (congrArg (fun z => Calls P g z w _) ?_) hc
    simp (disch := first | omega | (simp only [size_put]; omega)) [getT_put, getT_put_ne, hh0]
  · rintro e w' ⟨dv', rfl, q1, q2, q3⟩
    refine ⟨dv', rfl, ops_asg (ops_nil ?_)⟩
    refine SC.wp_ret ?_
    try simp only [Exit.then]
    refine ret_tmp hr (by simp [defers_put, hd]) ⟨dv', ?_, q1, q2, q3⟩
    simp (disch := first | omega | (simp only [size_put]; omega)) [getT_put]

end
end Go.Proofs.Ytioodpjcpadkoaa.K
