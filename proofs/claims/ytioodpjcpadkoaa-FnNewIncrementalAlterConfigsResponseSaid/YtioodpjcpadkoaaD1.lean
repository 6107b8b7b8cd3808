/- The functions Default: what they set, by a run over their stripped code. No condition. -/
import Derived.Test.YtioodpjcpadkoaaQ1
namespace Go.Proofs.Ytioodpjcpadkoaa.K
open Go Go.RowKit Go.Proofs.Ytioodpjcpadkoaa.T
set_option linter.unusedSimpArgs false
set_option linter.unusedVariables false

/-- which slots hold a pointer to which place of the struct, and what has been set -/
structure DSt where
  at_ : List (Nat × Nat)
  out : List (Nat × Value)
def DSt.look (s : DSt) (t : Nat) : Option Nat := (s.at_.find? fun x => x.1 == t).map (·.2)
def DSt.put (s : DSt) (t x : Nat) : DSt := ⟨(t, x) :: s.at_, s.out⟩

/-- N: the function's slots; n: the struct's cells -/
def dOp (P : Program) (N n : Nat) (s : DSt) : SOp → Option DSt
  | ⟨some t, .move (.tmp x), none⟩ => if t < N then (s.look x).map (s.put t) else none
  | ⟨some t, .assign (.tmp x), none⟩ => if t < N then (s.look x).map (s.put t) else none
  | ⟨some t, .nilCheck (.tmp x), none⟩ => if t < N then (s.look x).map (s.put t) else none
  | ⟨some t, .fieldAddr S (.tmp x) f, none⟩ => if t < N then (s.look x).bind fun o => (fieldOff P S f).map fun off => s.put t (o + off) else none
  | ⟨none, .store T (.tmp x) (.const v), none⟩ => if oneB P T && v.oneCell' then (s.look x).bind fun o => if o < n then some ⟨s.at_, s.out ++ [(o, v)]⟩ else none else none
  | _ => none
def dOps (P : Program) (N n : Nat) : DSt → List SOp → Option DSt
  | s, [] => some s
  | s, o :: r => (dOp P N n s o).bind fun s' => dOps P N n s' r
def dRun (P : Program) (N n : Nat) : DSt → SC → Option DSt
  | s, .skip => some s
  | s, .reg l => dOps P N n s l
  | s, .seq a b => (dRun P N n s a).bind fun s' => dRun P N n s' b
  | _, _ => none

/-- what has been set, in a struct's cells from o on -/
def dSetAll (o : Nat) : List (Nat × Value) → Array Value → Array Value
  | [], cs => cs
  | x :: r, cs => dSetAll o r (cs.setIfInBounds (o + x.1) x.2)
theorem dSetAll_append (o : Nat) : ∀ (l r : List (Nat × Value)) (cs : Array Value), dSetAll o (l ++ r) cs = dSetAll o r (dSetAll o l cs)
  | [], _, _ => rfl
  | x :: l, r, cs => dSetAll_append o l r _
theorem dSetAll_size (o : Nat) : ∀ (l : List (Nat × Value)) (cs : Array Value), (dSetAll o l cs).size = cs.size
  | [], _ => rfl
  | x :: l, cs => by simp [dSetAll, dSetAll_size o l]

/-- slots and set cells, in a run from world w0, block b, whose cells are cs -/
structure DInv (N : Nat) (w0 : World) (b o : Nat) (cs : Array Value) (T : TypeId) (s : DSt) (a : Act) (w : World) : Prop where
  size : a.tmps.size = N
  defers : a.defers = []
  slots : ∀ t x, s.look t = some x → getT a t = .pointer (some ⟨b, o + x, none⟩)
  world : w = w0.setRow b (dSetAll o s.out cs)
  row : w.heap[b]? = some (.cells (dSetAll o s.out cs) T (0, 0))

theorem dPut {N : Nat} {w0 w : World} {b o x t : Nat} {cs : Array Value} {T : TypeId} {s : DSt} {a : Act} {v : Value} (h : DInv N w0 b o cs T s a w) (ht : t < N) (hv : v = .pointer (some ⟨b, o + x, none⟩)) : DInv N w0 b o cs T (s.put t x) (a.put (some t) v) w := by
  subst hv
  refine ⟨by rw [size_put]; exact h.size, by rw [defers_put]; exact h.defers, fun t' x' hx => ?_, h.world, h.row⟩
  have hsz := h.size
  simp only [DSt.put, DSt.look, List.find?_cons] at hx
  by_cases e : t = t'
  · subst e
    simp at hx
    subst hx
    rw [getT_put (by omega)]
  · rw [getT_put_ne (Ne.symm e)]
    have : (t == t') = false := by simpa using e
    simp only [this] at hx
    exact h.slots t' x' hx

theorem dOps_ok {P : Program} {N n : Nat} {w0 : World} {b o : Nat} {cs : Array Value} {T : TypeId} (hn : o + n ≤ cs.size) {all : List SOp} {K : Act → World → Prop} {s' : DSt} (hK : ∀ a w, DInv N w0 b o cs T s' a w → K a w) :
    ∀ (l : List SOp) (s : DSt) (a : Act) (w : World), dOps P N n s l = some s' → DInv N w0 b o cs T s a w → opsw P all l K a w
  | [], s, a, w, h, hi => by
    simp only [dOps, Option.some.injEq] at h
    subst h
    exact hK a w hi
  | op :: r, s, a, w, h, hi => by
    simp only [dOps] at h
    obtain ⟨s1, h1, h2⟩ := Option.bind_eq_some_iff.1 h
    have ih := fun a w => dOps_ok hn (all := all) hK r s1 a w h2
    unfold dOp at h1
    split at h1 <;> try (simp at h1; done)
    · rename_i t x
      split at h1 <;> try (simp at h1; done)
      rename_i ht
      obtain ⟨y, hy, rfl⟩ := Option.map_eq_some_iff.1 h1
      have hs := hi.slots _ _ hy
      exact opsw_none rfl (opw_move (ih _ _ (dPut hi ht (by rw [eval_tmp]; exact hs))))
    · rename_i t x
      split at h1 <;> try (simp at h1; done)
      rename_i ht
      obtain ⟨y, hy, rfl⟩ := Option.map_eq_some_iff.1 h1
      have hs := hi.slots _ _ hy
      exact opsw_none rfl (opw_assign (ih _ _ (dPut hi ht (by rw [eval_tmp]; exact hs))))
    · rename_i t x
      split at h1 <;> try (simp at h1; done)
      rename_i ht
      obtain ⟨y, hy, rfl⟩ := Option.map_eq_some_iff.1 h1
      have hs := hi.slots _ _ hy
      exact opsw_none rfl (opw_nilCheck (by rw [eval_tmp]; exact hs) (ih _ _ (dPut hi ht rfl)))
    · rename_i t S x f
      split at h1 <;> try (simp at h1; done)
      rename_i ht
      obtain ⟨y, hy, h1⟩ := Option.bind_eq_some_iff.1 h1
      obtain ⟨off, hoff, rfl⟩ := Option.map_eq_some_iff.1 h1
      have hs := hi.slots _ _ hy
      exact opsw_none rfl (opw_field (fieldB_of hoff) (by rw [eval_tmp]; exact hs) (ih _ _ (dPut hi ht (by rw [Nat.add_assoc]))))
    · rename_i T' x v
      split at h1 <;> try (simp at h1; done)
      rename_i hT
      simp only [Bool.and_eq_true] at hT
      obtain ⟨y, hy, h1⟩ := Option.bind_eq_some_iff.1 h1
      split at h1 <;> try (simp at h1; done)
      rename_i hyn
      simp only [Option.some.injEq] at h1
      subst h1
      have hs := hi.slots _ _ hy
      have hsz := dSetAll_size o s.out cs
      have hlt : o + y < (dSetAll o s.out cs).size := by omega
      refine opsw_none rfl (opw_store_one (ad := ⟨b, o + y, none⟩) (v := v) (v0 := (dSetAll o s.out cs)[o + y]) hT.1 (by rw [eval_tmp]; exact hs) rfl hT.2 (by rw [cell_of_row _ _ _ _ _ _ hi.row]; exact Array.getElem?_eq_getElem hlt) (by simp [World.frozen?, hi.row]) ?_)
      rw [put_none]
      refine ih _ _ ⟨hi.size, hi.defers, hi.slots, ?_, ?_⟩
      · rw [setCell_eq_setRow _ _ _ _ _ _ _ hi.row, dSetAll_append, hi.world, setRow_setRow]
        rfl
      · rw [setCell_eq_setRow _ _ _ _ _ _ _ hi.row, dSetAll_append]
        exact setRow_heap _ _ _ _ _ _ hi.row

theorem dRun_ok {P : Program} {N n : Nat} {w0 : World} {b o : Nat} {cs : Array Value} {T : TypeId} (hn : o + n ≤ cs.size) : ∀ (c : SC) (s s' : DSt) (a : Act) (w : World) (Q : Exit → Act → World → Prop), dRun P N n s c = some s' → DInv N w0 b o cs T s a w →
    (∀ a w, DInv N w0 b o cs T s' a w → Q .normal a w) → c.wp P Q a w
  | .skip, s, s', a, w, Q, h, hi, hQ => by
    simp only [dRun, Option.some.injEq] at h
    subst h
    exact SC.wp_skip (hQ a w hi)
  | .reg l, s, s', a, w, Q, h, hi, hQ => by
    simp only [dRun] at h
    exact SC.wp_reg (dOps_ok hn hQ l s a w h hi)
  | .seq x y, s, s', a, w, Q, h, hi, hQ => by
    simp only [dRun] at h
    obtain ⟨s1, h1, h2⟩ := Option.bind_eq_some_iff.1 h
    refine SC.wp_seq (dRun_ok hn x s s1 a w _ h1 hi fun a' w' hi' => ?_)
    exact dRun_ok hn y s1 s' a' w' Q h2 hi' hQ
  | .dreg _ _, _, _, _, _, _, h, _, _ => by simp [dRun] at h
  | .cond _ _ _, _, _, _, _, _, h, _, _ => by simp [dRun] at h
  | .block _ _, _, _, _, _, _, h, _, _ => by simp [dRun] at h
  | .loop _, _, _, _, _, _, h, _, _ => by simp [dRun] at h
  | .exit _, _, _, _, _, _, h, _, _ => by simp [dRun] at h
  | .ret, _, _, _, _, _, h, _, _ => by simp [dRun] at h
  | .label _, _, _, _, _, _, h, _, _ => by simp [dRun] at h
  | .goto _, _, _, _, _, _, h, _, _ => by simp [dRun] at h
  | .scope _, _, _, _, _, _, h, _, _ => by simp [dRun] at h
  | .other, _, _, _, _, _, h, _, _ => by simp [dRun] at h

/-- a function Default sets these cells of its struct, of n cells, wherever it lies -/
def DefAt (P : Program) (f n : Nat) (out : List (Nat × Value)) : Prop :=
  FnOK P f ∧ ∀ (w : World) (b o : Nat) (cs : Array Value) (T : TypeId), w.heap[b]? = some (.cells cs T (0, 0)) → o + n ≤ cs.size →
    Calls P f #[.pointer (some ⟨b, o, none⟩)] w fun e w' => e = .returned (.tuple #[]) ∧ w' = w.setRow b (dSetAll o out cs)

/-- what the run over the code says it sets -/
def dOut (P : Program) (N n : Nat) (c : SC) : Option (List (Nat × Value)) := (dRun P N n ⟨[(0, 0)], []⟩ c).map (·.out)

theorem defAt_ok {P : Program} {f n N : Nat} {fn : Func} {c : SC} {out : List (Nat × Value)} (hf : P.funcs[f]? = some fn) (hb : fn.body.map strip = some c) (hnm : (fn.name == "runtime.NumGoroutine") = false) (hN : fn.ntmps = N) (h1 : 1 ≤ N) (hr : fn.results = #[])
    (hd : dOut P N n c = some out) : DefAt P f n out := by
  refine ⟨fnOK_of hf hb hnm, fun w b o cs T hc hn => ?_⟩
  obtain ⟨s, hs, rfl⟩ := Option.map_eq_some_iff.1 hd
  refine fn_calls hf hb hN (by simpa using h1) fun a0 hsz hdf ha => ?_
  have h0 := ha 0 _ rfl
  refine dRun_ok (w0 := w) hn c _ s a0 w _ hs ⟨hsz, hdf, fun t x hx => ?_, ?_, hc⟩ fun a w' hi => ?_
  · simp only [DSt.look, List.find?_cons, List.find?_nil] at hx
    by_cases e : 0 = t
    · subst e
      simp at hx
      subst hx
      simpa using h0
    · have : (0 == t) = false := by simpa using e
      simp [this] at hx
  · exact (setRow_self _ _ _ _ _ hc).symm
  · refine ⟨hi.defers, .tuple #[], by simp [results, hr], rfl, hi.world⟩

end Go.Proofs.Ytioodpjcpadkoaa.K
