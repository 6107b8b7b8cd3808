/- The stripped form of a function's code (no places of the text, no region numbers) and the rules by which it is walked. No condition. -/
import Derived.Tactics
import Derived.Laws.AppendOwn
namespace Go.Proofs.Ytioodpjcpadkoaa.K
open Go

/-- An operation without its place in the text. -/
structure SOp where
  dst : Option Tmp
  op : Op
  guard : Option (Nat × Bool)

def stripOp : Op → Op
  | .call ⟨.value f, args, _⟩ => .call ⟨.value f, args, #[]⟩
  | o => o

def sop (o : Oper) : SOp := ⟨o.dst, stripOp o.op, o.guard⟩

inductive SC where
  | skip
  | reg (ops : List SOp)
  /-- a statement whose order is open: each operation with those that it stands behind -/
  | dreg (ops : List SOp) (after : List (List Nat))
  | seq (a b : SC)
  | cond (c : Operand) (t e : SC)
  | block (id : Nat) (b : SC)
  | loop (b : SC)
  | exit (id : Nat)
  | ret
  | label (l : Nat)
  | goto (l : Nat)
  | scope (b : SC)
  | other

def strip : Code → SC
  | .skip => .skip
  | .region _ ops draw => if draw then .dreg (ops.toList.map sop) (ops.toList.map fun o => (o.after.toList.filter (Region.binds .any)).map (·.on)) else .reg (ops.toList.map sop)
  | .seq a b => .seq (strip a) (strip b)
  | .cond c t e => .cond c (strip t) (strip e)
  | .block i b => .block i (strip b)
  | .loop b => .loop (strip b)
  | .exit i => .exit i
  | .ret => .ret
  | .label l => .label l
  | .goto l => .goto l
  | .scope b => .scope (strip b)
  | _ => .other

/-- Whatever code has this stripped form meets the post. -/
def SC.wp (P : Program) (s : SC) (Q : Exit → Act → World → Prop) (a : Act) (w : World) : Prop := ∀ c, strip c = s → c.wp P Q a w

section
variable {P : Program} {Q : Exit → Act → World → Prop} {a : Act} {w : World}

theorem SC.wp_mono {s : SC} {Q' : Exit → Act → World → Prop} (h : s.wp P Q a w) (hq : ∀ e a w, Q e a w → Q' e a w) : s.wp P Q' a w :=
  fun c hc => Go.wp_mono (h c hc) hq

theorem SC.wp_skip (h : Q .normal a w) : SC.skip.wp P Q a w := by
  intro c hc
  cases c <;> simp [strip] at hc
  · exact Go.wp_skip h
  · split at hc <;> simp at hc

theorem SC.wp_seq {x y : SC} (h : x.wp P (Exit.then (y.wp P Q) Q) a w) : (SC.seq x y).wp P Q a w := by
  intro c hc
  cases c <;> simp [strip] at hc
  · split at hc <;> simp at hc
  · rename_i c1 c2
    refine Go.wp_seq (Go.wp_mono (h c1 hc.1) ?_)
    intro e a w hq
    cases e <;> first | exact hq | exact hq c2 hc.2

theorem SC.wp_cond {o : Operand} {x y : SC} {t : Bool} (ho : a.eval o = .bool t) (h : (if t then x else y).wp P Q a w) : (SC.cond o x y).wp P Q a w := by
  intro c hc
  cases c <;> simp [strip] at hc
  · split at hc <;> simp at hc
  · obtain ⟨rfl, rfl, rfl⟩ := hc
    refine Go.wp_cond ho ?_
    cases t
    · exact h _ rfl
    · exact h _ rfl

theorem SC.wp_block {id : Nat} {x : SC} (h : x.wp P (Exit.inBlock id Q) a w) : (SC.block id x).wp P Q a w := by
  intro c hc
  cases c <;> simp [strip] at hc
  · split at hc <;> simp at hc
  · obtain ⟨rfl, rfl⟩ := hc
    exact Go.wp_block (h _ rfl)

theorem SC.wp_exit {id : Nat} (h : Q (.exit id) a w) : (SC.exit id).wp P Q a w := by
  intro c hc
  cases c <;> simp [strip] at hc
  · split at hc <;> simp at hc
  · subst hc
    exact Go.wp_exit h

theorem SC.wp_ret (h : Q .ret a w) : SC.ret.wp P Q a w := by
  intro c hc
  cases c <;> simp [strip] at hc
  · split at hc <;> simp at hc
  · exact Go.wp_ret h

theorem SC.wp_loop {x : SC} (I : Act → World → Prop) (μ : Act → World → Nat) (h₀ : I a w)
    (round : ∀ a w, I a w → x.wp P (Exit.then (fun a' w' => I a' w' ∧ μ a' w' < μ a w) Q) a w) : (SC.loop x).wp P Q a w := by
  intro c hc
  cases c <;> simp [strip] at hc
  · split at hc <;> simp at hc
  · subst hc
    exact Go.wp_loop I μ h₀ fun a w hI => round a w hI _ rfl

end

/-- The operation, whatever its place, meets this. -/
def opw (P : Program) (s : SOp) (a : Act) (w : World) (K : Act → World → Prop) : Prop :=
  ∀ (o : Oper) (next : Act → World → Prop) (Q : Exit → Act → World → Prop), sop o = s → (∀ a w, K a w → next a w) → o.wp P a w next Q

/-- a slot's value -/
def getT (a : Act) (t : Nat) : Value := a.tmps.getD t undef

/-- a guard's value: the condition's, or none where it was not asked -/
def gv (v : Value) (want b : Bool) : Prop := v = .bool b ∨ (v = undef ∧ b = !want)

/-- the operations of a region, in order; 'all': the region's (for the guards) -/
def opsw (P : Program) (all : List SOp) : List SOp → (Act → World → Prop) → Act → World → Prop
  | [], K, a, w => K a w
  | s :: r, K, a, w =>
    match s.guard with
    | none => opw P s a w (opsw P all r K)
    | some (j, want) => ∃ (dj : Nat) (b : Bool), (all[j]?).bind (·.dst) = some dj ∧ dj < a.tmps.size ∧ gv (getT a dj) want b ∧
        if b = want then opw P s a w (opsw P all r K) else opsw P all r K (a.put s.dst undef) w

theorem wanted_of_gv {ops : Array Oper} {a : Act} {o : Oper} {j dj : Nat} {want b : Bool} (hg : o.guard = some (j, want)) (hj : ((ops.toList.map sop)[j]?).bind (·.dst) = some dj) (hlt : dj < a.tmps.size) (h : gv (getT a dj) want b) :
    Region.wanted o (yielded ops a.tmps) = (b == want) := by
  have hj' : (ops[j]?).bind (·.dst) = some dj := by
    simp only [List.getElem?_map, Array.getElem?_toList] at hj
    cases ho : ops[j]? with
    | none => simp [ho] at hj
    | some x => simpa [ho, sop] using hj
  have ht : a.tmps[dj]? = some (getT a dj) := by
    have : getT a dj = a.tmps[dj] := by simp [getT, Array.getD, hlt]
    rw [Array.getElem?_eq_getElem hlt, ← this]
  rcases h with h | ⟨h, rfl⟩
  · have hy : yielded ops a.tmps j = some b := by simp [yielded, hj', ht, h]
    simp only [Region.wanted, hg, hy]
    cases b <;> cases want <;> rfl
  · have hy : yielded ops a.tmps j = none := by simp [yielded, hj', ht, h, undef]
    simp only [Region.wanted, hg, hy]
    cases want <;> rfl

theorem opsw_list {P : Program} {ops : Array Oper} {Q : Exit → Act → World → Prop} {all : List SOp} (hall : ops.toList.map sop = all) : ∀ (l : List Oper) (a : Act) (w : World), opsw P all (l.map sop) (Q .normal) a w → wpList P ops Q l a w
  | [], _, _, h => h
  | o :: l, a, w, h => by
    unfold wpList
    simp only [List.map_cons, opsw] at h
    have hgo : (sop o).guard = o.guard := rfl
    rw [hgo] at h
    cases hg : o.guard with
    | none =>
      rw [hg] at h
      simp only [Region.wanted, hg, if_true]
      exact .inl (h o _ Q rfl (fun a w h => opsw_list hall l a w h))
    | some g =>
      obtain ⟨j, want⟩ := g
      rw [hg] at h
      obtain ⟨dj, b, hj, hlt, hb, h⟩ := h
      subst hall
      rw [wanted_of_gv hg hj hlt hb]
      by_cases hw : b = want
      · rw [if_pos hw] at h
        subst hw
        simp only [beq_self_eq_true, if_true]
        exact .inl (h o _ Q rfl (fun a w h => opsw_list rfl l a w h))
      · rw [if_neg hw] at h
        rw [if_neg (by simpa using hw)]
        exact opsw_list rfl l _ w h

theorem SC.wp_reg {P : Program} {Q : Exit → Act → World → Prop} {a : Act} {w : World} {l : List SOp} (h : opsw P l l (Q .normal) a w) : (SC.reg l).wp P Q a w := by
  intro c hc
  cases c <;> simp [strip] at hc
  · rename_i id ops draw
    split at hc
    · simp at hc
    · rename_i hd
      simp at hc
      have hd' : draw = false := by simpa using hd
      subst hd'
      exact wp_region_list (opsw_list hc _ _ _ (by rw [hc]; exact h))

/-! ### the frame -/
theorem eval_tmp (a : Act) (t : Nat) : a.eval (.tmp t) = getT a t := rfl
theorem eval_const (a : Act) (v : Value) : a.eval (.const v) = v := rfl
theorem eval_func (a : Act) (f : FuncId) : a.eval (.func f) = .func (.func f) #[] #[] := rfl
theorem put_some (a : Act) (d : Nat) (v : Value) : a.put (some d) v = { a with tmps := a.tmps.setIfInBounds d v } := rfl
theorem put_none (a : Act) (v : Value) : a.put none v = a := rfl
theorem getT_put {a : Act} {d : Nat} {v : Value} (h : d < a.tmps.size) : getT (a.put (some d) v) d = v := by
  simp [getT, put_some, Array.getD, h]
theorem getT_put_ne {a : Act} {d t : Nat} {v : Value} (h : t ≠ d) : getT (a.put (some d) v) t = getT a t := by
  simp [getT, put_some, Array.getElem?_setIfInBounds_ne (Ne.symm h)]
theorem size_put (a : Act) (d : Option Nat) (v : Value) : (a.put d v).tmps.size = a.tmps.size := by
  cases d <;> simp [Act.put]
theorem defers_put (a : Act) (d : Option Nat) (v : Value) : (a.put d v).defers = a.defers := by
  cases d <;> rfl

/-! ### the operations -/
section
variable {P : Program} {a : Act} {w : World} {K : Act → World → Prop} {d : Option Tmp} {g : Option (Nat × Bool)}

theorem opw_of {s : SOp} (h : ∀ (o : Oper) (next : Act → World → Prop) (Q : Exit → Act → World → Prop), o.dst = s.dst → stripOp o.op = s.op → (∀ a w, K a w → next a w) → o.upon P a next Q ((execOp a.eval o).run P w)) : opw P s a w K := by
  intro o next Q hs hn
  subst hs
  exact h o next Q rfl rfl hn

theorem stripOp_eq {o x : Op} (hx : ∀ f args t, x ≠ .call ⟨.value f, args, t⟩) (h : stripOp o = x) : o = x := by
  unfold stripOp at h
  split at h
  · exact absurd h.symm (hx _ _ _)
  · exact h

/-- an operation that gives a value -/
theorem opw_value {op : Op} {v : Value} {w' : World} (hx : ∀ f args t, op ≠ .call ⟨.value f, args, t⟩)
    (hr : ∀ o : Oper, o.op = op → (execOp a.eval o).run P w = .ok (.value v) w') (h : K (a.put d v) w') : opw P ⟨d, op, g⟩ a w K := by
  refine opw_of fun o next Q hd ho hn => ?_
  rw [hr o (stripOp_eq hx ho), Oper.upon_value, hd]
  exact hn _ _ h

theorem opw_skip {op : Op} {w' : World} (hx : ∀ f args t, op ≠ .call ⟨.value f, args, t⟩)
    (hr : ∀ o : Oper, o.op = op → (execOp a.eval o).run P w = .ok .skip w') (h : K (a.put d undef) w') : opw P ⟨d, op, g⟩ a w K := by
  refine opw_of fun o next Q hd ho hn => ?_
  rw [hr o (stripOp_eq hx ho), Oper.upon_skip, hd]
  exact hn _ _ h

theorem opw_move {x : Operand} (h : K (a.put d (a.eval x)) w) : opw P ⟨d, .move x, g⟩ a w K :=
  opw_value (by simp) (fun o ho => by simp [execOp, ho]) h
theorem opw_assign {x : Operand} (h : K (a.put d (a.eval x)) w) : opw P ⟨d, .assign x, g⟩ a w K :=
  opw_value (by simp) (fun o ho => by simp [execOp, ho]) h
theorem opw_nilCheck {x : Operand} {ad : Addr} (hx : a.eval x = .pointer (some ad)) (h : K (a.put d (.pointer (some ad))) w) : opw P ⟨d, .nilCheck x, g⟩ a w K :=
  opw_value (by simp) (fun o ho => by simp [execOp, ho, hx]) h

theorem run_callFunc {f : FuncId} {args : Array Value} {fn : Func} (hf : P.funcs[f]? = some fn) (hb : fn.body.isSome = true) (hnm : (fn.name == "runtime.NumGoroutine") = false) :
    (callFunc f args).run P w = .ok (.enter f args) w := by
  have hb' : fn.body.isNone = false := by cases h : fn.body <;> simp_all
  simp only [callFunc, program, bind, Sem.bind, Sem.run, hf, hnm, hb', Bool.false_eq_true, if_false, pure]

/-- a call of a function of the program -/
theorem opw_call {f : FuncId} {args : Array Operand} {fn : Func} {R : Ending → World → Prop} (hf : P.funcs[f]? = some fn) (hb : fn.body.isSome = true) (hnm : (fn.name == "runtime.NumGoroutine") = false)
    (hc : Calls P f (args.map a.eval) w R) (hR : ∀ e w', R e w' → ∃ v, e = .returned v ∧ K (a.put d v) w') : opw P ⟨d, .call ⟨.value (.func f), args, #[]⟩, g⟩ a w K := by
  refine opw_of fun o next Q hd ho hn => ?_
  have ho' : ∃ t, o.op = .call ⟨.value (.func f), args, t⟩ := by
    unfold stripOp at ho
    split at ho
    · rename_i heq
      simp at ho
      obtain ⟨rfl, rfl⟩ := ho
      exact ⟨_, heq⟩
    · rename_i hne
      exact absurd ho (hne _ _ _)
  obtain ⟨t, ho'⟩ := ho'
  have hr : (execOp a.eval o).run P w = .ok (.enter f (args.map a.eval)) w := by
    have h0 := run_callFunc (P := P) (w := w) (args := args.map a.eval) hf hb hnm
    simp [execOp, ho', resolve, Deferred.ofValue, invoke, eval_func, h0]
  rw [hr, Oper.upon_enter]
  refine hc.mono ?_
  intro e w' hq
  obtain ⟨v, rfl, hk⟩ := hR e w' hq
  rw [hd]
  exact hn _ _ hk
end

end Go.Proofs.Ytioodpjcpadkoaa.K
