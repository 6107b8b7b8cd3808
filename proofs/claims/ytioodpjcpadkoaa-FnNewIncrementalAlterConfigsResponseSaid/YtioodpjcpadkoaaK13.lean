/- The functions that write texts, octets and counts. No condition. -/
import Derived.Test.YtioodpjcpadkoaaS2
namespace Go.Proofs.Ytioodpjcpadkoaa.K
open Go Go.RowKit Go.Proofs.Ytioodpjcpadkoaa.T
set_option linter.unusedSimpArgs false
set_option linter.unusedVariables false

def sc_AppendBytes (T0 T1 T2 F0 : Nat) : SC := .seq (.reg [⟨some 4, .assign (.const (.slice none 0 0)), none⟩]) (.seq (.reg [mv 5 0, mv 6 1, lenOp 7 T0 6, ⟨some 8, .convert T1 T2 (.tmp 7), none⟩, cal 9 F0 [5, 8], asg 0 9]) (.seq (.reg [mv 10 0, mv 11 1, ⟨some 12, .call ⟨.builtin .append, #[(.tmp 10), (.tmp 11)], #[T0, T0]⟩, none⟩, asg 4 12]) (.ret)))
def sc_AppendCompactBytes (T0 T1 T2 F0 : Nat) : SC := .seq (.reg [⟨some 4, .assign (.const (.slice none 0 0)), none⟩]) (.seq (.reg [mv 5 0, mv 6 1, lenOp 7 T0 6, ⟨some 8, .convert T1 T2 (.tmp 7), none⟩, ⟨some 9, .binOp .add T2 (.const (.int .u32 1)) (.tmp 8) T2, none⟩, cal 10 F0 [5, 9], asg 0 10]) (.seq (.reg [mv 11 0, mv 12 1, ⟨some 13, .call ⟨.builtin .append, #[(.tmp 11), (.tmp 12)], #[T0, T0]⟩, none⟩, asg 4 13]) (.ret)))

section
variable {P : Program} {tU8 : Nat}

theorem opw_lenStr {a : Act} {w : World} {K : Act → World → Prop} {d : Option Tmp} {g : Option (Nat × Bool)} {T : TypeId} {x : Operand} {s : ByteArray} {ts : Array TypeId} (hT : strB P T = true) (hx : a.eval x = .string s) (ht : ts = #[T])
    (h : K (a.put d (.int .i64 (s.data.toList.length : Int))) w) : opw P ⟨d, .call ⟨.builtin .len, #[x], ts⟩, g⟩ a w K := by
  subst ht
  have hu := str_of hT
  refine opw_value (v := .int .i64 (s.data.toList.length : Int)) (by simp) (fun p hp => ?_) h
  have e : s.size = s.data.toList.length := by rw [Array.length_toList]; rfl
  simp [execOp, hp, hx, resolve, invoke, builtin, Builtin.len_, run_underlying hu, goInt]

theorem ops_ap {all : List SOp} {a : Act} {w : World} {B t f : Nat} {args : List Nat} {argsV : Array Value} {pre : World → Nat → Prop} {dv : Value} {xs out : Bytes} {r : List SOp} {K : Act → World → Prop} (hAP : AP P tU8 f argsV pre out)
    (hargs : (args.map (getT a)).toArray = #[dv] ++ argsV) (ho : Own tU8 w B dv xs) (hB : B ≤ w.heap.size) (hlen : xs.length + out.length ≤ lim) (hpre : pre w B)
    (h : ∀ dv' w', Own tU8 w' B dv' (xs ++ out) → Below B w w' → B ≤ w'.heap.size → opsw P all r K (a.put (some t) dv') w') : opsw P all (cal t f args :: r) K a w := by
  have hc := hAP.2 w B dv xs ho hB hlen hpre
  refine ops_cal hAP.1 (R := fun e w' => ∃ dv', e = .returned dv' ∧ Own tU8 w' B dv' (xs ++ out) ∧ Below B w w' ∧ B ≤ w'.heap.size) ?_ ?_
  · rw [hargs]; exact hc
  · rintro e w' ⟨dv', rfl, h1, h2, h3⟩
    exact ⟨dv', rfl, h dv' w' h1 h2 h3⟩

theorem opw_ap {a : Act} {w : World} {K : Act → World → Prop} {d : Option Tmp} {B f : Nat} {args : Array Operand} {argsV : Array Value} {pre : World → Nat → Prop} {dv : Value} {xs out : Bytes} (hAP : AP P tU8 f argsV pre out)
    (hargs : args.map a.eval = #[dv] ++ argsV) (ho : Own tU8 w B dv xs) (hB : B ≤ w.heap.size) (hlen : xs.length + out.length ≤ lim) (hpre : pre w B)
    (h : ∀ dv' w', Own tU8 w' B dv' (xs ++ out) → Below B w w' → B ≤ w'.heap.size → K (a.put d dv') w') : opw P ⟨d, .call ⟨.value (.func f), args, #[]⟩, none⟩ a w K := by
  have hc := hAP.2 w B dv xs ho hB hlen hpre
  obtain ⟨fn, h1, h2, h3⟩ := hAP.1
  refine opw_call h1 h2 h3 (R := fun e w' => ∃ dv', e = .returned dv' ∧ Own tU8 w' B dv' (xs ++ out) ∧ Below B w w' ∧ B ≤ w'.heap.size) ?_ ?_
  · rw [hargs]; exact hc
  · rintro e w' ⟨dv', rfl, h1, h2, h3⟩
    exact ⟨dv', rfl, h dv' w' h1 h2 h3⟩

theorem byteCells_eq (s : ByteArray) : byteCells s = cellsOf s.data.toList := rfl
theorem src_str {T : TypeId} (hT : strB P T = true) (s : ByteArray) (w : World) : Src P 1 T (.string s) s.data.toList.length (cellsOf s.data.toList) w := by
  have h := Src.ofString (P := P) w (str_of hT) s
  have e : s.size = s.data.toList.length := by rw [Array.length_toList]; rfl
  rwa [e] at h

theorem wrap_i16' (m : Int) : IntKind.i16.wrap m = if 32768 ≤ m % 65536 then m % 65536 - 65536 else m % 65536 := by
  simp [IntKind.wrap, IntKind.bits, IntKind.signed]
theorem wrap_i32' (m : Int) : IntKind.i32.wrap m = if 2147483648 ≤ m % 4294967296 then m % 4294967296 - 4294967296 else m % 4294967296 := by
  simp [IntKind.wrap, IntKind.bits, IntKind.signed]
theorem wrap_i64' (m : Int) : IntKind.i64.wrap m = if 9223372036854775808 ≤ m % 18446744073709551616 then m % 18446744073709551616 - 18446744073709551616 else m % 18446744073709551616 := by
  simp [IntKind.wrap, IntKind.bits, IntKind.signed]
theorem wrap_i16_small {n : Nat} (h : n ≤ most) : IntKind.i16.wrap (n : Int) = n := by
  have hm : most = 32767 := rfl
  rw [wrap_i16']
  omega
theorem wrap_i32_small {n : Nat} (h : n ≤ most) : IntKind.i32.wrap (n : Int) = n := by
  have hm : most = 32767 := rfl
  rw [wrap_i32']
  omega
theorem wrap_u32_small {n : Nat} (h : n ≤ 32768) : IntKind.u32.wrap (n : Int) = n := by
  rw [wrap_u32]; omega

theorem appendString_ok {f g : FuncId} {fn : Func} {T0 T1 T2 T3 : Nat} (hf : P.funcs[f]? = some fn) (hb : fn.body.map strip = some (sc_AppendString T0 T1 T2 T3 g)) (hnm : (fn.name == "runtime.NumGoroutine") = false) (hn : fn.ntmps = 13) (hr : fn.results = #[.tmp 4])
    (hT : u8sB P T3 tU8 = true) (hS : strB P T0 = true) (h1 : intB P T1 .i64 = true) (h2 : intB P T2 .i16 = true) (hg : ∀ n : Int, AP P tU8 g #[.int .i16 n] (fun _ _ => True) (fixed n 2)) (s : ByteArray) (hs : s.data.toList.length ≤ most) :
    AP P tU8 f #[.string s] (fun _ _ => True) (counted false false s.data.toList.length 2 ++ s.data.toList) := by
  refine AP_of hf hb hnm hn (by simp) fun w B dv xs a0 ho hB hl _ hsz hd hh0 ha => ?_
  have hx0 := ha 0 (.string s) rfl
  simp only [Nat.zero_add] at hx0
  generalize hbs : s.data.toList = bs at *
  rw [List.length_append] at hl
  refine SC.wp_seq (SC.wp_reg (opsw_none rfl (opw_assign (ops_nil ?_))))
  refine SC.wp_seq (SC.wp_reg (ops_mv (ops_mv (opsw_none rfl (opw_lenStr hS (s := s) ?_ rfl (opsw_none rfl (opw_convert h1 h2 (n := (bs.length : Int)) ?_ (ops_ap (B := B) (dv := dv) (xs := xs) (hg (bs.length : Int)) ?_ ho hB ?_ trivial ?_))))))))
  · simp (disch := first | omega | (simp only [size_put]; omega)) [eval_tmp, getT_put, getT_put_ne, hx0]
  · simp (disch := first | omega | (simp only [size_put]; omega)) [eval_tmp, getT_put, getT_put_ne, hbs]
  · simp (disch := first | omega | (simp only [size_put]; omega)) [eval_tmp, getT_put, getT_put_ne, hh0, wrap_i16_small hs]
  · simp [counted] at hl; omega
  intro dv' w' q1 q2 q3
  refine ops_asg (ops_nil ?_)
  refine SC.wp_seq (SC.wp_reg (ops_mv (ops_mv (opsw_none rfl (opw_appendU8 (B := B) (dv := dv') (xv := .string s) (xs := xs ++ fixed bs.length 2) (bs := bs) hT ?_ ?_ rfl q1 q3 ?_ ?_ ?_)))))
  · simp (disch := first | omega | (simp only [size_put]; omega)) [eval_tmp, getT_put, getT_put_ne]
  · simp (disch := first | omega | (simp only [size_put]; omega)) [eval_tmp, getT_put, getT_put_ne, hx0]
  · rw [← hbs]; exact src_str hS s w'
  · simp [counted] at hl ⊢; omega
  intro dv2 w2 r1 r2 r3 _
  refine ops_asg (ops_nil (SC.wp_ret ?_))
  try simp only [Exit.then, Exit.inBlock]
  refine ret_tmp hr (by simp [defers_put, hd]) ⟨dv2, ?_, ?_, q2.trans r2, r3⟩
  · simp (disch := first | omega | (simp only [size_put]; omega)) [eval_tmp, getT_put, getT_put_ne]
  · simpa [counted, List.append_assoc] using r1

theorem appendCompactString_ok {f g : FuncId} {fn : Func} {T0 T1 T2 T3 : Nat} (hf : P.funcs[f]? = some fn) (hb : fn.body.map strip = some (sc_AppendCompactString T0 T1 T2 T3 g)) (hnm : (fn.name == "runtime.NumGoroutine") = false) (hn : fn.ntmps = 14) (hr : fn.results = #[.tmp 4])
    (hT : u8sB P T3 tU8 = true) (hS : strB P T0 = true) (h1 : intB P T1 .i64 = true) (h2 : intB P T2 .u32 = true) (hg : ∀ n : Nat, n < 4294967296 → AP P tU8 g #[.int .u32 n] (fun _ _ => True) (uvarint n)) (s : ByteArray) (hs : s.data.toList.length ≤ most) :
    AP P tU8 f #[.string s] (fun _ _ => True) (counted true false s.data.toList.length 2 ++ s.data.toList) := by
  refine AP_of hf hb hnm hn (by simp) fun w B dv xs a0 ho hB hl _ hsz hd hh0 ha => ?_
  have hx0 := ha 0 (.string s) rfl
  simp only [Nat.zero_add] at hx0
  have hm : most = 32767 := rfl
  generalize hbs : s.data.toList = bs at *
  rw [List.length_append] at hl
  have ew : IntKind.u32.wrap (1 + (bs.length : Int)) = ((bs.length + 1 : Nat) : Int) := by rw [wrap_u32]; omega
  refine SC.wp_seq (SC.wp_reg (opsw_none rfl (opw_assign (ops_nil ?_))))
  refine SC.wp_seq (SC.wp_reg (ops_mv (ops_mv (opsw_none rfl (opw_lenStr hS (s := s) ?_ rfl (opsw_none rfl (opw_convert h1 h2 (n := (bs.length : Int)) ?_ (opsw_none rfl (opw_arith (op := .add) (k := .u32) (m := 1) (n := (bs.length : Int)) ?_ ?_ (.inl ⟨rfl, rfl⟩) (ops_ap (B := B) (dv := dv) (xs := xs) (hg (bs.length + 1) (by omega)) ?_ ho hB ?_ trivial ?_))))))))))
  · simp (disch := first | omega | (simp only [size_put]; omega)) [eval_tmp, getT_put, getT_put_ne, hx0]
  · simp (disch := first | omega | (simp only [size_put]; omega)) [eval_tmp, getT_put, getT_put_ne, hbs]
  · rfl
  · simp (disch := first | omega | (simp only [size_put]; omega)) [eval_tmp, getT_put, getT_put_ne, wrap_u32_small (by omega : bs.length ≤ 32768)]
  · simp (disch := first | omega | (simp only [size_put]; omega)) [eval_tmp, getT_put, getT_put_ne, hh0, ew]
  · simp [counted] at hl; omega
  intro dv' w' q1 q2 q3
  refine ops_asg (ops_nil ?_)
  refine SC.wp_seq (SC.wp_reg (ops_mv (ops_mv (opsw_none rfl (opw_appendU8 (B := B) (dv := dv') (xv := .string s) (xs := xs ++ uvarint (bs.length + 1)) (bs := bs) hT ?_ ?_ rfl q1 q3 ?_ ?_ ?_)))))
  · simp (disch := first | omega | (simp only [size_put]; omega)) [eval_tmp, getT_put, getT_put_ne]
  · simp (disch := first | omega | (simp only [size_put]; omega)) [eval_tmp, getT_put, getT_put_ne, hx0]
  · rw [← hbs]; exact src_str hS s w'
  · simp [counted] at hl ⊢; omega
  intro dv2 w2 r1 r2 r3 _
  refine ops_asg (ops_nil (SC.wp_ret ?_))
  try simp only [Exit.then, Exit.inBlock]
  refine ret_tmp hr (by simp [defers_put, hd]) ⟨dv2, ?_, ?_, q2.trans r2, r3⟩
  · simp (disch := first | omega | (simp only [size_put]; omega)) [eval_tmp, getT_put, getT_put_ne]
  · simpa [counted, List.append_assoc] using r1

theorem src_bytes {T tU8 : TypeId} (hT : u8sB P T tU8 = true) {w : World} {F : Nat → Prop} {base : Option Addr} {bs : Bytes} (h : BytesAt w F base bs) (cap : Nat) : Src P 1 T (.slice base bs.length cap) bs.length (cellsOf bs) w := by
  obtain ⟨hu, _⟩ := u8s_of hT
  rcases h with ⟨rfl, rfl⟩ | ⟨b, o, rfl, _, h⟩
  · exact Src.ofNil w hu cap
  · refine Src.ofSlice w hu ⟨b, o, none⟩ _ cap _ (by rw [cellsOf_length, Nat.mul_one]) ?_ ?_
    · intro j u hj
      rw [add_none]
      exact cells_cell h j u hj
    · intro u hu
      simp only [cellsOf, List.mem_map] at hu
      obtain ⟨c, _, rfl⟩ := hu
      rfl

theorem appendBytes_ok {f g : FuncId} {fn : Func} {T0 T1 T2 : Nat} (hf : P.funcs[f]? = some fn) (hb : fn.body.map strip = some (sc_AppendBytes T0 T1 T2 g)) (hnm : (fn.name == "runtime.NumGoroutine") = false) (hn : fn.ntmps = 13) (hr : fn.results = #[.tmp 4])
    (hT : u8sB P T0 tU8 = true) (hE : sliceB P T0 tU8 1 = true) (h1 : intB P T1 .i64 = true) (h2 : intB P T2 .i32 = true) (hg : ∀ n : Int, AP P tU8 g #[.int .i32 n] (fun _ _ => True) (fixed n 4)) (base : Option Addr) (cap : Nat) (bs : Bytes) (hs : bs.length ≤ most) :
    AP P tU8 f #[.slice base bs.length cap] (fun w B => BytesAt w (· < B) base bs) (counted false false bs.length 4 ++ bs) := by
  refine AP_of hf hb hnm hn (by simp) fun w B dv xs a0 ho hB hl hpre hsz hd hh0 ha => ?_
  have hx0 := ha 0 (.slice base bs.length cap) rfl
  simp only [Nat.zero_add] at hx0
  rw [List.length_append] at hl
  refine SC.wp_seq (SC.wp_reg (opsw_none rfl (opw_assign (ops_nil ?_))))
  refine SC.wp_seq (SC.wp_reg (ops_mv (ops_mv (ops_len (cap := cap) (len := bs.length) (base := base) hE ?_ (opsw_none rfl (opw_convert h1 h2 (n := (bs.length : Int)) ?_ (ops_ap (B := B) (dv := dv) (xs := xs) (hg (bs.length : Int)) ?_ ho hB ?_ trivial ?_)))))))
  · simp (disch := first | omega | (simp only [size_put]; omega)) [eval_tmp, getT_put, getT_put_ne, hx0]
  · simp (disch := first | omega | (simp only [size_put]; omega)) [eval_tmp, getT_put, getT_put_ne]
  · simp (disch := first | omega | (simp only [size_put]; omega)) [eval_tmp, getT_put, getT_put_ne, hh0, wrap_i32_small hs]
  · simp [counted] at hl; omega
  intro dv' w' q1 q2 q3
  refine ops_asg (ops_nil ?_)
  refine SC.wp_seq (SC.wp_reg (ops_mv (ops_mv (opsw_none rfl (opw_appendU8 (B := B) (dv := dv') (xv := .slice base bs.length cap) (xs := xs ++ fixed bs.length 4) (bs := bs) hT ?_ ?_ rfl q1 q3 ?_ ?_ ?_)))))
  · simp (disch := first | omega | (simp only [size_put]; omega)) [eval_tmp, getT_put, getT_put_ne]
  · simp (disch := first | omega | (simp only [size_put]; omega)) [eval_tmp, getT_put, getT_put_ne, hx0]
  · exact src_bytes hT (bytesAt_below hpre q2) cap
  · simp [counted] at hl ⊢; omega
  intro dv2 w2 r1 r2 r3 _
  refine ops_asg (ops_nil (SC.wp_ret ?_))
  try simp only [Exit.then, Exit.inBlock]
  refine ret_tmp hr (by simp [defers_put, hd]) ⟨dv2, ?_, ?_, q2.trans r2, r3⟩
  · simp (disch := first | omega | (simp only [size_put]; omega)) [eval_tmp, getT_put, getT_put_ne]
  · simpa [counted, List.append_assoc] using r1

theorem appendCompactBytes_ok {f g : FuncId} {fn : Func} {T0 T1 T2 : Nat} (hf : P.funcs[f]? = some fn) (hb : fn.body.map strip = some (sc_AppendCompactBytes T0 T1 T2 g)) (hnm : (fn.name == "runtime.NumGoroutine") = false) (hn : fn.ntmps = 14) (hr : fn.results = #[.tmp 4])
    (hT : u8sB P T0 tU8 = true) (hE : sliceB P T0 tU8 1 = true) (h1 : intB P T1 .i64 = true) (h2 : intB P T2 .u32 = true) (hg : ∀ n : Nat, n < 4294967296 → AP P tU8 g #[.int .u32 n] (fun _ _ => True) (uvarint n)) (base : Option Addr) (cap : Nat) (bs : Bytes) (hs : bs.length ≤ most) :
    AP P tU8 f #[.slice base bs.length cap] (fun w B => BytesAt w (· < B) base bs) (counted true false bs.length 4 ++ bs) := by
  refine AP_of hf hb hnm hn (by simp) fun w B dv xs a0 ho hB hl hpre hsz hd hh0 ha => ?_
  have hx0 := ha 0 (.slice base bs.length cap) rfl
  simp only [Nat.zero_add] at hx0
  have hm : most = 32767 := rfl
  rw [List.length_append] at hl
  have ew : IntKind.u32.wrap (1 + (bs.length : Int)) = ((bs.length + 1 : Nat) : Int) := by rw [wrap_u32]; omega
  refine SC.wp_seq (SC.wp_reg (opsw_none rfl (opw_assign (ops_nil ?_))))
  refine SC.wp_seq (SC.wp_reg (ops_mv (ops_mv (ops_len (cap := cap) (len := bs.length) (base := base) hE ?_ (opsw_none rfl (opw_convert h1 h2 (n := (bs.length : Int)) ?_ (opsw_none rfl (opw_arith (op := .add) (k := .u32) (m := 1) (n := (bs.length : Int)) ?_ ?_ (.inl ⟨rfl, rfl⟩) (ops_ap (B := B) (dv := dv) (xs := xs) (hg (bs.length + 1) (by omega)) ?_ ho hB ?_ trivial ?_)))))))))
  · simp (disch := first | omega | (simp only [size_put]; omega)) [eval_tmp, getT_put, getT_put_ne, hx0]
  · simp (disch := first | omega | (simp only [size_put]; omega)) [eval_tmp, getT_put, getT_put_ne]
  · rfl
  · simp (disch := first | omega | (simp only [size_put]; omega)) [eval_tmp, getT_put, getT_put_ne, wrap_u32_small (by omega : bs.length ≤ 32768)]
  · simp (disch := first | omega | (simp only [size_put]; omega)) [eval_tmp, getT_put, getT_put_ne, hh0, ew]
  · simp [counted] at hl; omega
  intro dv' w' q1 q2 q3
  refine ops_asg (ops_nil ?_)
  refine SC.wp_seq (SC.wp_reg (ops_mv (ops_mv (opsw_none rfl (opw_appendU8 (B := B) (dv := dv') (xv := .slice base bs.length cap) (xs := xs ++ uvarint (bs.length + 1)) (bs := bs) hT ?_ ?_ rfl q1 q3 ?_ ?_ ?_)))))
  · simp (disch := first | omega | (simp only [size_put]; omega)) [eval_tmp, getT_put, getT_put_ne]
  · simp (disch := first | omega | (simp only [size_put]; omega)) [eval_tmp, getT_put, getT_put_ne, hx0]
  · exact src_bytes hT (bytesAt_below hpre q2) cap
  · simp [counted] at hl ⊢; omega
  intro dv2 w2 r1 r2 r3 _
  refine ops_asg (ops_nil (SC.wp_ret ?_))
  try simp only [Exit.then, Exit.inBlock]
  refine ret_tmp hr (by simp [defers_put, hd]) ⟨dv2, ?_, ?_, q2.trans r2, r3⟩
  · simp (disch := first | omega | (simp only [size_put]; omega)) [eval_tmp, getT_put, getT_put_ne]
  · simpa [counted, List.append_assoc] using r1

/-- a pointer to a text: null -/
theorem appendNullStr0_ok {f g g2 : FuncId} {fn : Func} {T0 T1 : Nat} {compact : Bool} (hf : P.funcs[f]? = some fn) (hb : fn.body.map strip = some (if compact then sc_AppendCompactNullableString T0 T1 g g2 else sc_AppendNullableString T0 T1 g g2)) (hnm : (fn.name == "runtime.NumGoroutine") = false) (hn : fn.ntmps = 14) (hr : fn.results = #[.tmp 4]) (hP : ptrB P T0 = true)
    (hg : AP P tU8 g #[if compact then .int .u32 0 else .int .i16 (-1)] (fun _ _ => True) (counted compact true 0 2)) :
    AP P tU8 f #[.pointer none] (fun _ _ => True) (counted compact true 0 2) := by
  refine AP_of hf hb hnm hn (by simp) fun w B dv xs a0 ho hB hl _ hsz hd hh0 ha => ?_
  have hx0 := ha 0 (.pointer none) rfl
  simp only [Nat.zero_add] at hx0
  have main : ∀ c : Value, c = (if compact then Value.int .u32 0 else .int .i16 (-1)) → SC.wp P (.seq (.reg [⟨some 4, .assign (.const (.slice none 0 0)), none⟩]) (.seq (.seq (.reg [mv 5 1, ⟨some 6, .binOp .eql T0 (.tmp 5) (.const (.pointer none)) T0, none⟩]) (.cond (.tmp 6) (.seq (.reg [mv 7 0, ⟨some 8, .call ⟨.value (.func g), #[(.tmp 7), (.const c)], #[]⟩, none⟩, asg 4 8]) (.ret)) (.skip))) (.seq (.reg [mv 9 0, mv 10 1, nilc 11 10, ld 12 T1 11, cal 13 g2 [9, 12], asg 4 13]) (.ret)))) (bodyPost P fn fun e w' => ∃ dv', e = .returned dv' ∧ Own tU8 w' B dv' (xs ++ counted compact true 0 2) ∧ Below B w w' ∧ B ≤ w'.heap.size) a0 w := by
    intro c hcv
    subst hcv
    refine SC.wp_seq (SC.wp_reg (opsw_none rfl (opw_assign (ops_nil ?_))))
    refine SC.wp_seq (SC.wp_seq (SC.wp_reg (ops_mv (opsw_none rfl (opw_eqlnil_ptr (q := none) hP ?_ (ops_nil ?_))))))
    · simp (disch := first | omega | (simp only [size_put]; omega)) [eval_tmp, getT_put, getT_put_ne, hx0]
    refine SC.wp_cond (t := true) (by simp (disch := first | omega | (simp only [size_put]; omega)) [eval_tmp, getT_put, getT_put_ne]) ?_
    rw [if_pos rfl]
    refine SC.wp_seq (SC.wp_reg (ops_mv (opsw_none rfl (opw_ap (B := B) (dv := dv) (xs := xs) hg ?_ ho hB hl trivial ?_))))
    · simp (disch := first | omega | (simp only [size_put]; omega)) [eval_tmp, getT_put, getT_put_ne, hh0, eval_const]
    intro dv' w' q1 q2 q3
    refine ops_asg (ops_nil (SC.wp_ret ?_))
    try simp only [Exit.then, Exit.inBlock]
    refine ret_tmp hr (by simp [defers_put, hd]) ⟨dv', ?_, q1, q2, q3⟩
    simp (disch := first | omega | (simp only [size_put]; omega)) [eval_tmp, getT_put, getT_put_ne]
  cases compact
  · exact main _ rfl
  · exact main _ rfl

theorem appendNullStr_ok {f g g2 : FuncId} {fn : Func} {T0 T1 : Nat} {compact : Bool} (hf : P.funcs[f]? = some fn) (hb : fn.body.map strip = some (if compact then sc_AppendCompactNullableString T0 T1 g g2 else sc_AppendNullableString T0 T1 g g2)) (hnm : (fn.name == "runtime.NumGoroutine") = false) (hn : fn.ntmps = 14) (hr : fn.results = #[.tmp 4])
    (hP : ptrB P T0 = true) (h1 : oneB P T1 = true) (s : ByteArray) (hg : AP P tU8 g2 #[.string s] (fun _ _ => True) (counted compact false s.data.toList.length 2 ++ s.data.toList)) (b o : Nat) :
    AP P tU8 f #[.pointer (some ⟨b, o, none⟩)] (fun w B => b < B ∧ w.cell? ⟨b, o, none⟩ = some (.string s)) (counted compact false s.data.toList.length 2 ++ s.data.toList) := by
  refine AP_of hf hb hnm hn (by simp) fun w B dv xs a0 ho hB hl hpre hsz hd hh0 ha => ?_
  have hx0 := ha 0 (.pointer (some ⟨b, o, none⟩)) rfl
  simp only [Nat.zero_add] at hx0
  have main : ∀ c : Value, SC.wp P (.seq (.reg [⟨some 4, .assign (.const (.slice none 0 0)), none⟩]) (.seq (.seq (.reg [mv 5 1, ⟨some 6, .binOp .eql T0 (.tmp 5) (.const (.pointer none)) T0, none⟩]) (.cond (.tmp 6) (.seq (.reg [mv 7 0, ⟨some 8, .call ⟨.value (.func g), #[(.tmp 7), (.const c)], #[]⟩, none⟩, asg 4 8]) (.ret)) (.skip))) (.seq (.reg [mv 9 0, mv 10 1, nilc 11 10, ld 12 T1 11, cal 13 g2 [9, 12], asg 4 13]) (.ret)))) (bodyPost P fn fun e w' => ∃ dv', e = .returned dv' ∧ Own tU8 w' B dv' (xs ++ (counted compact false s.data.toList.length 2 ++ s.data.toList)) ∧ Below B w w' ∧ B ≤ w'.heap.size) a0 w := by
    intro c
    refine SC.wp_seq (SC.wp_reg (opsw_none rfl (opw_assign (ops_nil ?_))))
    refine SC.wp_seq (SC.wp_seq (SC.wp_reg (ops_mv (opsw_none rfl (opw_eqlnil_ptr (q := some ⟨b, o, none⟩) hP ?_ (ops_nil ?_))))))
    · simp (disch := first | omega | (simp only [size_put]; omega)) [eval_tmp, getT_put, getT_put_ne, hx0]
    refine SC.wp_cond (t := false) (by simp (disch := first | omega | (simp only [size_put]; omega)) [eval_tmp, getT_put, getT_put_ne]) ?_
    rw [if_neg (by simp)]
    refine SC.wp_skip ?_
    try simp only [Exit.then]
    refine SC.wp_seq (SC.wp_reg (ops_mv (ops_mv (ops_nilc (ad := ⟨b, o, none⟩) ?_ (ops_ld (ad := ⟨b, o, none⟩) (v := .string s) h1 ?_ hpre.2 (ops_ap (B := B) (dv := dv) (xs := xs) hg ?_ ho hB hl trivial ?_))))))
    · simp (disch := first | omega | (simp only [size_put]; omega)) [eval_tmp, getT_put, getT_put_ne, hx0]
    · simp (disch := first | omega | (simp only [size_put]; omega)) [eval_tmp, getT_put, getT_put_ne]
    · simp (disch := first | omega | (simp only [size_put]; omega)) [eval_tmp, getT_put, getT_put_ne, hh0]
    intro dv' w' q1 q2 q3
    refine ops_asg (ops_nil (SC.wp_ret ?_))
    try simp only [Exit.then, Exit.inBlock]
    refine ret_tmp hr (by simp [defers_put, hd]) ⟨dv', ?_, q1, q2, q3⟩
    simp (disch := first | omega | (simp only [size_put]; omega)) [eval_tmp, getT_put, getT_put_ne]
  cases compact
  · exact main _
  · exact main _

theorem appendArrayLen_ok {f g : FuncId} {fn : Func} {T0 T1 : Nat} (hf : P.funcs[f]? = some fn) (hb : fn.body.map strip = some (sc_AppendArrayLen T0 T1 g)) (hnm : (fn.name == "runtime.NumGoroutine") = false) (hn : fn.ntmps = 9) (hr : fn.results = #[.tmp 4])
    (h1 : intB P T0 .i64 = true) (h2 : intB P T1 .i32 = true) (hg : ∀ n : Int, AP P tU8 g #[.int .i32 n] (fun _ _ => True) (fixed n 4)) (n : Nat) (hs : n ≤ most) :
    AP P tU8 f #[.int .i64 n] (fun _ _ => True) (counted false false n 4) := by
  refine AP_of hf hb hnm hn (by simp) fun w B dv xs a0 ho hB hl _ hsz hd hh0 ha => ?_
  have hx0 := ha 0 (.int .i64 n) rfl
  simp only [Nat.zero_add] at hx0
  refine SC.wp_seq (SC.wp_reg (opsw_none rfl (opw_assign (ops_nil ?_))))
  refine SC.wp_seq (SC.wp_reg (ops_mv (ops_mv (opsw_none rfl (opw_convert h1 h2 (n := (n : Int)) ?_ (ops_ap (B := B) (dv := dv) (xs := xs) (hg (n : Int)) ?_ ho hB ?_ trivial ?_))))))
  · simp (disch := first | omega | (simp only [size_put]; omega)) [eval_tmp, getT_put, getT_put_ne, hx0]
  · simp (disch := first | omega | (simp only [size_put]; omega)) [eval_tmp, getT_put, getT_put_ne, hh0, wrap_i32_small hs]
  · simpa [counted] using hl
  intro dv' w' q1 q2 q3
  refine ops_asg (ops_nil (SC.wp_ret ?_))
  try simp only [Exit.then, Exit.inBlock]
  refine ret_tmp hr (by simp [defers_put, hd]) ⟨dv', ?_, by simpa [counted] using q1, q2, q3⟩
  simp (disch := first | omega | (simp only [size_put]; omega)) [eval_tmp, getT_put, getT_put_ne]

theorem appendCompactArrayLen_ok {f g : FuncId} {fn : Func} {T0 T1 : Nat} (hf : P.funcs[f]? = some fn) (hb : fn.body.map strip = some (sc_AppendCompactArrayLen T0 T1 g)) (hnm : (fn.name == "runtime.NumGoroutine") = false) (hn : fn.ntmps = 10) (hr : fn.results = #[.tmp 4])
    (h1 : intB P T0 .i64 = true) (h2 : intB P T1 .u32 = true) (hg : ∀ n : Nat, n < 4294967296 → AP P tU8 g #[.int .u32 n] (fun _ _ => True) (uvarint n)) (n : Nat) (hs : n ≤ most) :
    AP P tU8 f #[.int .i64 n] (fun _ _ => True) (counted true false n 4) := by
  refine AP_of hf hb hnm hn (by simp) fun w B dv xs a0 ho hB hl _ hsz hd hh0 ha => ?_
  have hx0 := ha 0 (.int .i64 n) rfl
  simp only [Nat.zero_add] at hx0
  have hm : most = 32767 := rfl
  have ew : IntKind.u32.wrap (1 + (n : Int)) = ((n + 1 : Nat) : Int) := by rw [wrap_u32]; omega
  refine SC.wp_seq (SC.wp_reg (opsw_none rfl (opw_assign (ops_nil ?_))))
  refine SC.wp_seq (SC.wp_reg (ops_mv (ops_mv (opsw_none rfl (opw_convert h1 h2 (n := (n : Int)) ?_ (opsw_none rfl (opw_arith (op := .add) (k := .u32) (m := 1) (n := (n : Int)) ?_ ?_ (.inl ⟨rfl, rfl⟩) (ops_ap (B := B) (dv := dv) (xs := xs) (hg (n + 1) (by omega)) ?_ ho hB ?_ trivial ?_))))))))
  · simp (disch := first | omega | (simp only [size_put]; omega)) [eval_tmp, getT_put, getT_put_ne, hx0]
  · rfl
  · simp (disch := first | omega | (simp only [size_put]; omega)) [eval_tmp, getT_put, getT_put_ne, wrap_u32_small (by omega : n ≤ 32768)]
  · simp (disch := first | omega | (simp only [size_put]; omega)) [eval_tmp, getT_put, getT_put_ne, hh0, ew]
  · simpa [counted] using hl
  intro dv' w' q1 q2 q3
  refine ops_asg (ops_nil (SC.wp_ret ?_))
  try simp only [Exit.then, Exit.inBlock]
  refine ret_tmp hr (by simp [defers_put, hd]) ⟨dv', ?_, by simpa [counted] using q1, q2, q3⟩
  simp (disch := first | omega | (simp only [size_put]; omega)) [eval_tmp, getT_put, getT_put_ne]

theorem appendNullArr_ok {f g : FuncId} {fn : Func} {T0 T1 : Nat} (hf : P.funcs[f]? = some fn) (hb : fn.body.map strip = some (sc_AppendNullableArrayLen T0 T1 g)) (hnm : (fn.name == "runtime.NumGoroutine") = false) (hn : fn.ntmps = 14) (hr : fn.results = #[.tmp 6])
    (h1 : intB P T0 .i64 = true) (h2 : intB P T1 .i32 = true) (hg : ∀ n : Int, AP P tU8 g #[.int .i32 n] (fun _ _ => True) (fixed n 4)) (n : Nat) (x : Bool) (hs : n ≤ most) :
    AP P tU8 f #[.int .i64 n, .bool x] (fun _ _ => True) (counted false x n 4) := by
  refine AP_of hf hb hnm hn (by simp) fun w B dv xs a0 ho hB hl _ hsz hd hh0 ha => ?_
  have hx0 := ha 0 (.int .i64 n) rfl
  have hx1 := ha 1 (.bool x) rfl
  simp only [Nat.zero_add] at hx0 hx1
  refine SC.wp_seq (SC.wp_reg (opsw_none rfl (opw_assign (ops_nil ?_))))
  refine SC.wp_seq (SC.wp_seq (SC.wp_reg (ops_mv (ops_nil ?_))))
  refine SC.wp_cond (t := x) (by simp (disch := first | omega | (simp only [size_put]; omega)) [eval_tmp, getT_put, getT_put_ne, hx1]) ?_
  cases x
  · rw [if_neg (by simp)]
    refine SC.wp_skip ?_
    try simp only [Exit.then]
    refine SC.wp_seq (SC.wp_reg (ops_mv (ops_mv (opsw_none rfl (opw_convert h1 h2 (n := (n : Int)) ?_ (ops_ap (B := B) (dv := dv) (xs := xs) (hg (n : Int)) ?_ ho hB ?_ trivial ?_))))))
    · simp (disch := first | omega | (simp only [size_put]; omega)) [eval_tmp, getT_put, getT_put_ne, hx0]
    · simp (disch := first | omega | (simp only [size_put]; omega)) [eval_tmp, getT_put, getT_put_ne, hh0, wrap_i32_small hs]
    · simpa [counted] using hl
    intro dv' w' q1 q2 q3
    refine ops_asg (ops_nil (SC.wp_ret ?_))
    try simp only [Exit.then, Exit.inBlock]
    refine ret_tmp hr (by simp [defers_put, hd]) ⟨dv', ?_, by simpa [counted] using q1, q2, q3⟩
    simp (disch := first | omega | (simp only [size_put]; omega)) [eval_tmp, getT_put, getT_put_ne]
  · rw [if_pos rfl]
    refine SC.wp_seq (SC.wp_reg (ops_mv (opsw_none rfl (opw_ap (B := B) (dv := dv) (xs := xs) (hg (-1)) ?_ ho hB ?_ trivial ?_))))
    · simp (disch := first | omega | (simp only [size_put]; omega)) [eval_tmp, getT_put, getT_put_ne, hh0, eval_const]
    · simpa [counted] using hl
    intro dv' w' q1 q2 q3
    refine ops_asg (ops_nil (SC.wp_ret ?_))
    try simp only [Exit.then, Exit.inBlock]
    refine ret_tmp hr (by simp [defers_put, hd]) ⟨dv', ?_, by simpa [counted] using q1, q2, q3⟩
    simp (disch := first | omega | (simp only [size_put]; omega)) [eval_tmp, getT_put, getT_put_ne]

theorem appendCompactNullArr_ok {f g : FuncId} {fn : Func} {T0 T1 : Nat} (hf : P.funcs[f]? = some fn) (hb : fn.body.map strip = some (sc_AppendCompactNullableArrayLen T0 T1 g)) (hnm : (fn.name == "runtime.NumGoroutine") = false) (hn : fn.ntmps = 15) (hr : fn.results = #[.tmp 6])
    (h1 : intB P T0 .i64 = true) (h2 : intB P T1 .u32 = true) (hg : ∀ n : Nat, n < 4294967296 → AP P tU8 g #[.int .u32 n] (fun _ _ => True) (uvarint n)) (n : Nat) (x : Bool) (hs : n ≤ most) :
    AP P tU8 f #[.int .i64 n, .bool x] (fun _ _ => True) (counted true x n 4) := by
  refine AP_of hf hb hnm hn (by simp) fun w B dv xs a0 ho hB hl _ hsz hd hh0 ha => ?_
  have hx0 := ha 0 (.int .i64 n) rfl
  have hx1 := ha 1 (.bool x) rfl
  simp only [Nat.zero_add] at hx0 hx1
  have hm : most = 32767 := rfl
  have ew : IntKind.u32.wrap (1 + (n : Int)) = ((n + 1 : Nat) : Int) := by rw [wrap_u32]; omega
  have e0 : uvarint 0 = [0] := by rw [uvarint_lt (by decide)]; rfl
  refine SC.wp_seq (SC.wp_reg (opsw_none rfl (opw_assign (ops_nil ?_))))
  refine SC.wp_seq (SC.wp_seq (SC.wp_reg (ops_mv (ops_nil ?_))))
  refine SC.wp_cond (t := x) (by simp (disch := first | omega | (simp only [size_put]; omega)) [eval_tmp, getT_put, getT_put_ne, hx1]) ?_
  cases x
  · rw [if_neg (by simp)]
    refine SC.wp_skip ?_
    try simp only [Exit.then]
    refine SC.wp_seq (SC.wp_reg (ops_mv (ops_mv (opsw_none rfl (opw_convert h1 h2 (n := (n : Int)) ?_ (opsw_none rfl (opw_arith (op := .add) (k := .u32) (m := 1) (n := (n : Int)) ?_ ?_ (.inl ⟨rfl, rfl⟩) (ops_ap (B := B) (dv := dv) (xs := xs) (hg (n + 1) (by omega)) ?_ ho hB ?_ trivial ?_))))))))
    · simp (disch := first | omega | (simp only [size_put]; omega)) [eval_tmp, getT_put, getT_put_ne, hx0]
    · rfl
    · simp (disch := first | omega | (simp only [size_put]; omega)) [eval_tmp, getT_put, getT_put_ne, wrap_u32_small (by omega : n ≤ 32768)]
    · simp (disch := first | omega | (simp only [size_put]; omega)) [eval_tmp, getT_put, getT_put_ne, hh0, ew]
    · simpa [counted] using hl
    intro dv' w' q1 q2 q3
    refine ops_asg (ops_nil (SC.wp_ret ?_))
    try simp only [Exit.then, Exit.inBlock]
    refine ret_tmp hr (by simp [defers_put, hd]) ⟨dv', ?_, by simpa [counted] using q1, q2, q3⟩
    simp (disch := first | omega | (simp only [size_put]; omega)) [eval_tmp, getT_put, getT_put_ne]
  · rw [if_pos rfl]
    refine SC.wp_seq (SC.wp_reg (ops_mv (opsw_none rfl (opw_ap (B := B) (dv := dv) (xs := xs) (hg 0 (by decide)) ?_ ho hB ?_ trivial ?_))))
    · simp (disch := first | omega | (simp only [size_put]; omega)) [eval_tmp, getT_put, getT_put_ne, hh0, eval_const]
    · simpa [counted, e0] using hl
    intro dv' w' q1 q2 q3
    refine ops_asg (ops_nil (SC.wp_ret ?_))
    try simp only [Exit.then, Exit.inBlock]
    refine ret_tmp hr (by simp [defers_put, hd]) ⟨dv', ?_, by simpa [counted, e0] using q1, q2, q3⟩
    simp (disch := first | omega | (simp only [size_put]; omega)) [eval_tmp, getT_put, getT_put_ne]

/-- sixteen octets -/
theorem opw_sliceArr {a : Act} {w : World} {K : Act → World → Prop} {d : Option Tmp} {g : Option (Nat × Bool)} {A E n b : Nat} {x : Operand} (hE : P.underlying A = some (.array n E)) (hs : ∃ i, P.info? E = some i) (hx : a.eval x = .pointer (some ⟨b, 0, none⟩))
    (h : K (a.put d (.slice (some ⟨b, 0, none⟩) n n)) w) : opw P ⟨d, .slice A x none none none, g⟩ a w K := by
  obtain ⟨i, hi⟩ := hs
  refine opw_value (by simp) (fun p hp => ?_) h
  simp [execOp, hp, hx, Instr.sliceAt, run_underlying hE, Instr.sliceBounds, Instr.sureAddr, asAddr, sizeOf, typeInfo, hi, Addr.add]

def arr16 (P : Program) (T tU8 : TypeId) : Bool :=
  match P.underlying T with
  | some (.array 16 e) => e == tU8
  | _ => false

theorem appendUuid_ok {f : FuncId} {fn : Func} {T0 T1 : Nat} (hf : P.funcs[f]? = some fn) (hb : fn.body.map strip = some (sc_AppendUuid T0 T1)) (hnm : (fn.name == "runtime.NumGoroutine") = false) (hn : fn.ntmps = 8) (hr : fn.results = #[.tmp 4])
    (hT : u8sB P T1 tU8 = true) (hA : arr16 P T0 tU8 = true) (bs : Bytes) (hs : bs.length = 16) :
    AP P tU8 f #[.agg (cellsOf bs).toArray] (fun _ _ => True) bs := by
  refine AP_of hf hb hnm hn (by simp) fun w B dv xs a0 ho hB hl _ hsz hd hh0 ha => ?_
  have hx0 := ha 0 (.agg (cellsOf bs).toArray) rfl
  simp only [Nat.zero_add] at hx0
  obtain ⟨hu, i, hi, hz, hs1, hby⟩ := u8s_of hT
  have hE : P.underlying T0 = some (.array 16 tU8) := by
    unfold arr16 at hA
    split at hA
    · rename_i e he
      simp at hA
      subst hA
      exact he
    · simp at hA
  refine SC.wp_seq (SC.wp_reg (opsw_none rfl (opw_box (v := .agg (cellsOf bs).toArray) (by simp (disch := first | omega | (simp only [size_put]; omega)) [eval_tmp, getT_put, getT_put_ne, hx0]) (opsw_none rfl (opw_assign (ops_nil ?_))))))
  have hown : Own tU8 (w.alloc (.cells (Value.agg (cellsOf bs).toArray).cells T0)) B dv xs := ho.alloc _
  refine SC.wp_seq (SC.wp_reg (ops_mv (opsw_none rfl (opw_sliceArr hE ⟨i, hi⟩ (b := w.heap.size) ?_ (opsw_none rfl (opw_appendU8 (B := B) (dv := dv) (xv := .slice (some ⟨w.heap.size, 0, none⟩) bs.length 16) (xs := xs) (bs := bs) hT ?_ ?_ rfl hown ?_ ?_ hl ?_))))))
  · simp (disch := first | omega | (simp only [size_put]; omega)) [eval_tmp, getT_put, getT_put_ne]
  · simp (disch := first | omega | (simp only [size_put]; omega)) [eval_tmp, getT_put, getT_put_ne, hh0]
  · rw [hs]; simp (disch := first | omega | (simp only [size_put]; omega)) [eval_tmp, getT_put, getT_put_ne]
  · simp; omega
  · refine Src.ofSlice _ hu ⟨w.heap.size, 0, none⟩ _ 16 _ (by rw [cellsOf_length, Nat.mul_one]) ?_ ?_
    · intro j u hj
      rw [add_none, cell_of_row _ _ _ _ _ _ (heap_alloc_new w _)]
      simpa [Value.cells] using hj
    · intro u hu
      simp only [cellsOf, List.mem_map] at hu
      obtain ⟨c, _, rfl⟩ := hu
      rfl
  intro dv2 w2 r1 r2 r3 _
  refine ops_asg (ops_nil (SC.wp_ret ?_))
  try simp only [Exit.then, Exit.inBlock]
  refine ret_tmp hr (by simp [defers_put, hd]) ⟨dv2, ?_, r1, ((Below.refl B w).alloc hB _).trans r2, r3⟩
  simp (disch := first | omega | (simp only [size_put]; omega)) [eval_tmp, getT_put, getT_put_ne]
end
end Go.Proofs.Ytioodpjcpadkoaa.K
