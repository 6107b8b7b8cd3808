/- Operations that only look, run all at once. No condition. -/
import Derived.Test.YtioodpjcpadkoaaK13
namespace Go.Proofs.Ytioodpjcpadkoaa.K
open Go Go.RowKit Go.Proofs.Ytioodpjcpadkoaa.T
set_option linter.unusedSimpArgs false
set_option linter.unusedVariables false

def intK (P : Program) (T : TypeId) : Option IntKind :=
  match P.underlying T with
  | some (.int k) => some k
  | _ => none
/-- the first cell of a struct's field -/
def fieldOff (P : Program) (S f : Nat) : Option Nat :=
  match P.underlying S with
  | some (.struct fields) => match fields.toList[f]? with
    | some fld => match P.info? fld.type with
      | some i => if i.size = 0 then none else some fld.offset
      | none => none
    | none => none
  | _ => none
/-- the cells of a slice's elements -/
def sliceN (P : Program) (T : Nat) : Option Nat :=
  match P.underlying T with
  | some (.slice e) => (P.info? e).map (·.size)
  | _ => none
def aggN (P : Program) (T : TypeId) : Option Nat :=
  match P.info? T, P.underlying T with
  | some i, some (.struct _) => some i.size
  | some i, some (.array _ _) => some i.size
  | _, _ => none
def rangeV (w : World) (b : Nat) : Nat → Nat → Option (List Value)
  | _, 0 => some []
  | o, n + 1 => (w.cell? ⟨b, o, none⟩).bind fun v => (rangeV w b (o + 1) n).map (v :: ·)

def iop (op : BinOp) (k k' : IntKind) (m n : Int) : Option Value :=
  match op with
  | .add => if k = k' then some (.int k (k.wrap (m + n))) else none
  | .sub => if k = k' then some (.int k (k.wrap (m - n))) else none
  | .mul => if k = k' then some (.int k (k.wrap (m * n))) else none
  | .lss => if k = k' then some (.bool (decide (m < n))) else none
  | .leq => if k = k' then some (.bool (decide (m ≤ n))) else none
  | .gtr => if k = k' then some (.bool (decide (n < m))) else none
  | .geq => if k = k' then some (.bool (decide (n ≤ m))) else none
  | .eql => if k = k' then some (.bool (m == n)) else none
  | .neq => if k = k' then some (.bool (m != n)) else none
  | .shr => if 0 ≤ n ∧ n.toNat ≤ k.bits then some (.int k (m / (2 ^ n.toNat : Int))) else none
  | .shl => if 0 ≤ n ∧ n.toNat ≤ k.bits then some (.int k (k.wrap (m * 2 ^ n.toNat))) else none
  | .and => if k = k' then some (.int k (k.wrap ((BitVec.ofInt k.bits m &&& BitVec.ofInt k.bits n).toNat : Int))) else none
  | .or => if k = k' then some (.int k (k.wrap ((BitVec.ofInt k.bits m ||| BitVec.ofInt k.bits n).toNat : Int))) else none
  | _ => none

def vop (op : BinOp) : Value → Value → Option Value
  | .int k m, .int k' n => iop op k k' m n
  | _, _ => none

def qcall (P : Program) (a : Act) : Callee → List Operand → List TypeId → Option Value
  | .builtin .len, [x], [T] => match a.eval x with
    | .slice _ len _ => if (sliceN P T).isSome then some (.int .i64 (len : Int)) else none
    | .string s => if strB P T then some (.int .i64 (s.data.toList.length : Int)) else none
    | _ => none
  | .builtin .min, [x, y], _ => match a.eval x, a.eval y with
    | .int k m, .int _ n => some (.int k (if n < m then n else m))
    | _, _ => none
  | .builtin .max, [x, y], _ => match a.eval x, a.eval y with
    | .int k m, .int _ n => some (.int k (if n > m then n else m))
    | _, _ => none
  | _, _, _ => none

/-- the value of an operation that only looks; 'ok': the blocks that may be looked at -/
def qv (ok : Nat → Bool) (P : Program) (w : World) (a : Act) : Op → Option Value
  | .move x => some (a.eval x)
  | .assign x => some (a.eval x)
  | .nilCheck x => match a.eval x with
    | .pointer (some ad) => some (.pointer (some ad))
    | _ => none
  | .fieldAddr S x f => match a.eval x, fieldOff P S f with
    | .pointer (some ⟨b, o, none⟩), some off => some (.pointer (some ⟨b, o + off, none⟩))
    | _, _ => none
  | .load T x => match a.eval x with
    | .pointer (some ⟨b, o, none⟩) => if ok b then (if oneB P T then w.cell? ⟨b, o, none⟩ else match aggN P T with
      | some n => (rangeV w b o n).map fun cs => .agg cs.toArray
      | none => none) else none
    | _ => none
  | .indexAddr T x y => match a.eval x, a.eval y, sliceN P T with
    | .slice (some ⟨b, o, none⟩) len _, .int _ j, some n => if 0 ≤ j ∧ j < len then some (.pointer (some ⟨b, o + j.toNat * n, none⟩)) else none
    | _, _, _ => none
  | .binOp op _ x y _ => vop op (a.eval x) (a.eval y)
  | .unOp .not _ x => match a.eval x with
    | .bool b => some (.bool !b)
    | _ => none
  | .pick c x y => match a.eval c with
    | .bool b => some (if b then a.eval x else a.eval y)
    | _ => none
  | .convert S T x => match intK P S, intK P T, a.eval x with
    | some k, some k', .int k2 n => if k = k2 then some (.int k' (k'.wrap n)) else none
    | _, _, _ => none
  | .slice T x none (some y) none => match a.eval x, a.eval y, sliceN P T with
    | .slice base _ cap, .int _ h, some _ => if 0 ≤ h ∧ h ≤ cap then some (.slice base h.toNat cap) else none
    | _, _, _ => none
  | .call ⟨f, args, ts⟩ => qcall P a f args.toList ts.toList
  | _ => none

section
variable {P : Program} {a : Act} {w : World} {K : Act → World → Prop} {d : Option Tmp} {g : Option (Nat × Bool)}

theorem fieldB_of {S f off : Nat} (h : fieldOff P S f = some off) : fieldB P S f off = true := by
  unfold fieldOff at h
  unfold fieldB
  split at h <;> try (simp at h; done)
  rename_i fields hu
  split at h <;> try (simp at h; done)
  rename_i fld hf
  split at h <;> try (simp at h; done)
  rename_i i hi
  split at h <;> try (simp at h; done)
  rename_i h0
  simp at h
  subst h
  simp [hu, hf, hi, h0]

theorem fieldOff_of {S f off : Nat} (h : fieldB P S f off = true) : fieldOff P S f = some off := by
  unfold fieldB at h
  unfold fieldOff
  split at h <;> try (simp at h; done)
  rename_i fields hu
  split at h <;> try (simp at h; done)
  rename_i fld hf
  simp at h
  obtain ⟨h1, h2⟩ := h
  split at h2 <;> try (simp at h2; done)
  rename_i i hi
  simp at h2
  simp [hu, hf, hi, h2, h1]

theorem sliceB_of {T n : Nat} (h : sliceN P T = some n) : ∃ E, sliceB P T E n = true := by
  unfold sliceN at h
  split at h <;> try (simp at h; done)
  rename_i e hu
  obtain ⟨i, hi, hn⟩ := Option.map_eq_some_iff.1 h
  exact ⟨e, by simp [sliceB, hu, hi, hn]⟩
theorem sliceN_of {T E n : Nat} (h : sliceB P T E n = true) : sliceN P T = some n := by
  obtain ⟨hu, i, hi, hs⟩ := slice_of h
  simp [sliceN, hu, hi, hs]

theorem intB_of {T : Nat} {k : IntKind} (h : intK P T = some k) : intB P T k = true := by
  unfold intK at h
  split at h <;> try (simp at h; done)
  rename_i k' hu
  simp at h
  subst h
  simp [intB, hu]
theorem intK_of {T : Nat} {k : IntKind} (h : intB P T k = true) : intK P T = some k := by
  unfold intB at h
  split at h <;> try (simp at h; done)
  rename_i k' hu
  simp at h
  subst h
  simp [intK, hu]

theorem aggB_of {T n : Nat} (h : aggN P T = some n) : aggB P T n = true := by
  unfold aggN at h
  split at h <;> simp_all [aggB]
theorem aggN_of {T n : Nat} (h : aggB P T n = true) : aggN P T = some n := by
  unfold aggB at h
  split at h <;> simp_all [aggN]
theorem oneB_not_agg {T n : Nat} (h : aggB P T n = true) : oneB P T = false := by
  unfold aggB at h
  split at h <;> try (simp at h; done)
  all_goals
    rename_i h1 h2
    simp [oneB, h1, h2]

theorem rangeV_get {b : Nat} : ∀ (n o : Nat) (cs : List Value), rangeV w b o n = some cs → cs.length = n ∧ ∀ j v, cs[j]? = some v → w.cell? ⟨b, o + j, none⟩ = some v
  | 0, o, cs, h => by
    simp [rangeV] at h
    subst h
    simp
  | n + 1, o, cs, h => by
    unfold rangeV at h
    obtain ⟨v, hv, h⟩ := Option.bind_eq_some_iff.1 h
    obtain ⟨cs', hcs, rfl⟩ := Option.map_eq_some_iff.1 h
    obtain ⟨h1, h2⟩ := rangeV_get n (o + 1) cs' hcs
    refine ⟨by simp [h1], fun j u hu => ?_⟩
    cases j with
    | zero => simp at hu; subst hu; exact hv
    | succ j =>
      simp at hu
      have := h2 j u hu
      rwa [show o + 1 + j = o + (j + 1) by omega] at this
theorem rangeV_of {b : Nat} : ∀ (cs : List Value) (o : Nat), (∀ j v, cs[j]? = some v → w.cell? ⟨b, o + j, none⟩ = some v) → rangeV w b o cs.length = some cs
  | [], _, _ => rfl
  | v :: cs, o, h => by
    unfold rangeV
    have h0 := h 0 v rfl
    rw [Nat.add_zero] at h0
    simp only [List.length_cons]
    rw [h0, rangeV_of cs (o + 1) (fun j u hu => by have := h (j + 1) u hu; rwa [show o + (j + 1) = o + 1 + j by omega] at this)]
    rfl

theorem vop_sound {op : BinOp} {T T' : TypeId} {x y : Operand} {v : Value} (h : vop op (a.eval x) (a.eval y) = some v) : ∀ p : Oper, p.op = .binOp op T x y T' → (execOp a.eval p).run P w = .ok (.value v) w := by
  intro p hp
  unfold vop at h
  split at h <;> try (simp at h; done)
  rename_i k m k' n hx hy
  unfold iop at h
  split at h <;> try (simp at h; done)
  all_goals
    split at h <;> try (simp at h; done)
  case h_10 =>
    rename_i hn
    simp at h
    subst h
    have e : m.fdiv (2 ^ n.toNat : Int) = m / (2 ^ n.toNat : Int) := Int.fdiv_eq_ediv_of_nonneg _ (Int.le_of_lt (Int.pow_pos (by decide)))
    have e2 : min n.toNat k.bits = n.toNat := Nat.min_eq_left hn.2
    have e3 : ¬ (n < 0) := by omega
    simp [execOp, hp, hx, hy, eqGuard, binOp, Op.shift, e, e2, e3]
  case h_11 =>
    rename_i hn
    simp at h
    subst h
    have e2 : min n.toNat k.bits = n.toNat := Nat.min_eq_left hn.2
    have e3 : ¬ (n < 0) := by omega
    simp [execOp, hp, hx, hy, eqGuard, binOp, Op.shift, e2, e3]
  all_goals
    rename_i hk
    subst hk
    simp at h
    subst h
    simp [execOp, hp, hx, hy, run_eqGuard_int, binOp, Op.intArith, Op.intCmp, Op.intBits]

theorem qv_sound {ok : Nat → Bool} {w0 : World} (hS : ∀ b o, ok b = true → w.cell? ⟨b, o, none⟩ = w0.cell? ⟨b, o, none⟩) {op : Op} {v : Value} (h : qv ok P w0 a op = some v) : ∀ p : Oper, stripOp p.op = op → (execOp a.eval p).run P w = .ok (.value v) w := by
  intro p hp0
  have hne : ∀ f args t, op ≠ .call ⟨.value f, args, t⟩ := by
    intro f args t he
    subst he
    simp [qv, qcall] at h
  have hp := stripOp_eq hne hp0
  clear hp0
  unfold qv at h
  split at h <;> try (simp at h; done)
  · simp at h; subst h; simp [execOp, hp]
  · simp at h; subst h; simp [execOp, hp]
  · split at h <;> try (simp at h; done)
    rename_i hx
    simp at h; subst h; simp [execOp, hp, hx]
  · split at h <;> try (simp at h; done)
    rename_i b o off hx hf
    simp at h; subst h
    simp [execOp, hp, hx, run_field (fieldB_of hf)]
  · split at h <;> try (simp at h; done)
    rename_i b o hx
    split at h <;> try (simp at h; done)
    rename_i hok
    split at h
    · rename_i hT
      rw [← hS b o hok] at h
      simp [execOp, hp, hx, run_load_one hT h]
    · split at h <;> try (simp at h; done)
      rename_i n hn
      obtain ⟨cs, hcs, rfl⟩ := Option.map_eq_some_iff.1 h
      obtain ⟨h1, h2⟩ := rangeV_get _ _ _ hcs
      have h2 : ∀ j v, cs[j]? = some v → w.cell? ⟨b, o + j, none⟩ = some v := fun j v hj => by rw [hS b _ hok]; exact h2 j v hj
      subst h1
      simp [execOp, hp, hx, run_load_agg (aggB_of hn) h2]
  · split at h <;> try (simp at h; done)
    rename_i b o len cap k j n hx hy hn
    split at h <;> try (simp at h; done)
    rename_i hj
    simp at h
    subst h
    obtain ⟨E, hE⟩ := sliceB_of hn
    obtain ⟨hu, i, hi, hs⟩ := slice_of hE
    simp [execOp, hp, hx, hy, Instr.indexAt, asIntOf, run_underlying hu, hj, sizeOf, typeInfo, hi, hs, add_none]
  · exact vop_sound h p hp
  · split at h <;> try (simp at h; done)
    rename_i b hx
    simp at h; subst h; simp [execOp, hp, hx, Op.unary]
  · split at h <;> try (simp at h; done)
    rename_i b hx
    simp at h; subst h; simp [execOp, hp, hx, asBool]
  · split at h <;> try (simp at h; done)
    rename_i k k' k2 n hS hT hx
    split at h <;> try (simp at h; done)
    rename_i hk
    subst hk
    simp at h
    subst h
    have h1 := intB_of hS
    have h2 := intB_of hT
    unfold intB at h1 h2
    split at h1 <;> try (simp at h1; done)
    split at h2 <;> try (simp at h2; done)
    rename_i q1 _ _ q2
    simp at h1 h2
    subst h1; subst h2
    simp [execOp, hp, hx, convert, run_underlying q1, run_underlying q2, Conv.intToInt]
  · split at h <;> try (simp at h; done)
    rename_i base len cap k hh n hx hy hn
    split at h <;> try (simp at h; done)
    rename_i hb0
    simp at h
    subst h
    obtain ⟨E, hE⟩ := sliceB_of hn
    obtain ⟨hu, i, hi, hs⟩ := slice_of hE
    have hb : (Instr.sliceBounds true len cap none (some (.int k hh)) none).run P w = .ok (0, hh.toNat, cap) w := by
      simp [Instr.sliceBounds, run_sliceBound, hb0]
    simp [execOp, hp, hx, hy, Instr.sliceAt, Instr.slice, run_underlying hu, hb, sizeOf, typeInfo, hi, add_none]
    intro hc
    cases base with
    | none => rfl
    | some ad => simp [Addr.add]
  · clear hne
    rename_i f args ts
    obtain ⟨args⟩ := args
    obtain ⟨ts⟩ := ts
    simp only at h
    unfold qcall at h
    split at h <;> try (simp at h; done)
    · split at h <;> try (simp at h; done)
      · rename_i base len cap hx
        split at h <;> try (simp at h; done)
        rename_i hn
        simp at h
        subst h
        obtain ⟨n, hn⟩ := Option.isSome_iff_exists.1 hn
        obtain ⟨E, hE⟩ := sliceB_of hn
        obtain ⟨hu, _⟩ := slice_of hE
        simp [execOp, hp, hx, resolve, invoke, builtin, Builtin.len_, run_underlying hu, goInt]
      · rename_i s hx
        split at h <;> try (simp at h; done)
        rename_i hT
        have hu := str_of hT
        simp at h
        subst h
        simp [execOp, hp, hx, resolve, invoke, builtin, Builtin.len_, run_underlying hu, goInt]
    · split at h <;> try (simp at h; done)
      rename_i k m _ n hx hy
      simp at h
      subst h
      simp [execOp, hp, hx, hy, resolve, invoke, builtin, Builtin.min_, Builtin.min2]
    · split at h <;> try (simp at h; done)
      rename_i k m _ n hx hy
      simp at h
      subst h
      simp [execOp, hp, hx, hy, resolve, invoke, builtin, Builtin.max_, Builtin.max2]

/-! one operation at a time -/
theorem ops_1 {all r : List SOp} {d : Nat} {op : Op} {v : Value} (h : qv (fun _ => true) P w a op = some v) (hk : opsw P all r K (a.put (some d) v) w) : opsw P all (⟨some d, op, none⟩ :: r) K a w :=
  opsw_none rfl (opw_of fun o next Q hd ho hn => by
    rw [qv_sound (fun _ _ _ => rfl) h o ho, Oper.upon_value, hd]
    exact hn _ _ hk)
theorem ops_y {all r : List SOp} {d j dj : Nat} {want : Bool} {op : Op} {v : Value} (hj : (all[j]?).bind (·.dst) = some dj) (hlt : dj < a.tmps.size) (hb : getT a dj = .bool want) (h : qv (fun _ => true) P w a op = some v) (hk : opsw P all r K (a.put (some d) v) w) :
    opsw P all (⟨some d, op, some (j, want)⟩ :: r) K a w :=
  opsw_yes rfl hj hlt hb (opw_of fun o next Q hd ho hn => by
    rw [qv_sound (fun _ _ _ => rfl) h o ho, Oper.upon_value, hd]
    exact hn _ _ hk)
theorem ops_n {all r : List SOp} {d j dj : Nat} {want : Bool} {op : Op} (hj : (all[j]?).bind (·.dst) = some dj) (hlt : dj < a.tmps.size) (hb : getT a dj = .bool !want ∨ getT a dj = undef) (hk : opsw P all r K (a.put (some d) undef) w) :
    opsw P all (⟨some d, op, some (j, want)⟩ :: r) K a w := opsw_no rfl hj hlt hb hk

theorem opq_of {w0 : World} {B : Nat} {s : SOp} {v : Value} (h : qv (fun b => decide (b < B)) P w0 a s.op = some v) : opq P (Below B w0) s a v := fun o ho w' hS' =>
  qv_sound (w0 := w0) (fun b o hb => hS'.cell (by simpa using hb)) h o (congrArg SOp.op ho)

theorem dr_1 {w0 : World} {B i d : Nat} {op : Op} {ops : List SOp} {v : Value} {r : List (Nat × Bool)} (hs : ops[i]? = some ⟨some d, op, none⟩) (h : qv (fun b => decide (b < B)) P w0 a op = some v)
    (hk : dregw P (Below B w0) ops r K (a.put (some d) v) w) : dregw P (Below B w0) ops ((i, true) :: r) K a w := by
  unfold dregw
  exact ⟨_, hs, by simpa only [if_true] using ⟨v, opq_of (s := ⟨some d, op, none⟩) h, hk⟩⟩
theorem dr_y {w0 : World} {B i d j dj : Nat} {want : Bool} {op : Op} {ops : List SOp} {v : Value} {r : List (Nat × Bool)} (hs : ops[i]? = some ⟨some d, op, some (j, want)⟩) (hj : (ops[j]?).bind (·.dst) = some dj) (hlt : dj < a.tmps.size) (hb : getT a dj = .bool want) (h : qv (fun b => decide (b < B)) P w0 a op = some v)
    (hk : dregw P (Below B w0) ops r K (a.put (some d) v) w) : dregw P (Below B w0) ops ((i, true) :: r) K a w := by
  unfold dregw
  exact ⟨_, hs, dj, want, hj, hlt, .inl hb, by simpa only [if_true] using ⟨v, opq_of (s := ⟨some d, op, some (j, want)⟩) h, hk⟩⟩
theorem dr_n {w0 : World} {B i d j dj : Nat} {q want : Bool} {op : Op} {ops : List SOp} {r : List (Nat × Bool)} (hs : ops[i]? = some ⟨some d, op, some (j, want)⟩) (hj : (ops[j]?).bind (·.dst) = some dj) (hlt : dj < a.tmps.size) (hb : getT a dj = .bool !want ∨ getT a dj = undef)
    (hk : dregw P (Below B w0) ops r K (a.put (some d) undef) w) : dregw P (Below B w0) ops ((i, q) :: r) K a w := by
  unfold dregw
  exact ⟨_, hs, dj, !want, hj, hlt, hb.imp id (fun h => ⟨h, rfl⟩), by rw [if_neg (by cases want <;> simp)]; exact hk⟩

theorem dreg_n {S : World → Prop} {ops : List SOp} {i : Nat} {s : SOp} {r : List (Nat × Bool)} (hs : ops[i]? = some s) (hg : s.guard = none) (h : opw P s a w (fun a' w' => S w' ∧ dregw P S ops r K a' w')) :
    dregw P S ops ((i, false) :: r) K a w := by
  unfold dregw
  refine ⟨s, hs, ?_⟩
  rw [hg]
  exact h
theorem dreg_yes {S : World → Prop} {ops : List SOp} {i j dj : Nat} {want : Bool} {s : SOp} {r : List (Nat × Bool)} (hs : ops[i]? = some s) (hg : s.guard = some (j, want)) (hj : (ops[j]?).bind (·.dst) = some dj) (hlt : dj < a.tmps.size) (hb : getT a dj = .bool want)
    (h : opw P s a w (fun a' w' => S w' ∧ dregw P S ops r K a' w')) : dregw P S ops ((i, false) :: r) K a w := by
  unfold dregw
  refine ⟨s, hs, ?_⟩
  rw [hg]
  exact ⟨dj, want, hj, hlt, .inl hb, by rw [if_pos rfl]; exact h⟩
theorem dreg_nil {S : World → Prop} {ops : List SOp} (h : K a w) : dregw P S ops [] K a w := h
end
end Go.Proofs.Ytioodpjcpadkoaa.K
