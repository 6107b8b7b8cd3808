/- A message's AppendTo writes what the schema says: the pieces of the code. No condition. -/
import Derived.Test.YtioodpjcpadkoaaK4
namespace Go.Proofs.Ytioodpjcpadkoaa.K
open Go Go.RowKit Go.Proofs.Ytioodpjcpadkoaa.T

/-- what does not change while an AppendTo runs -/
structure Fix where
  P : Program
  I : Ids
  tU8 : Nat
  G : List (Nat × Bytes) → Prop
  c : Ctx
  w0 : World
  B : Nat
  ver : Int
  flex : Bool
  T0 : Nat
  N : Nat

structure Fix.ok (X : Fix) : Prop where
  ka : KA X.G X.P X.I X.tU8
  ver1 : X.c.ver ≠ 1
  flex1 : X.c.flex ≠ 1
  verT : X.c.ver < X.T0
  flexT : X.c.flex < X.T0
  oneT : 1 < X.T0
  never : X.c.never = true → X.flex = false
  size : X.B ≤ X.w0.heap.size
  hver : 0 ≤ X.ver

/-- the state between two statements: xs is written -/
structure AInv (X : Fix) (a : Act) (w : World) (xs : Bytes) : Prop where
  size : a.tmps.size = X.N
  defers : a.defers = []
  ver : getT a X.c.ver = .int .i16 X.ver
  flex : X.c.never = false → getT a X.c.flex = .bool X.flex
  own : Own X.tU8 w X.B (getT a 1) xs
  below : Below X.B X.w0 w
  heap : X.B ≤ w.heap.size

/-- the slots that a piece keeps -/
def Same (X : Fix) (a a' : Act) (lo t : Nat) : Prop := ∀ s, s ≠ 1 → (s < lo ∨ (X.T0 ≤ s ∧ s < t)) → getT a' s = getT a s
theorem Same.refl (X : Fix) (a : Act) (lo t : Nat) : Same X a a lo t := fun _ _ _ => rfl
theorem Same.trans {X : Fix} {a b c : Act} {lo t lo' t' : Nat} (h : Same X a b lo t) (h' : Same X b c lo' t') (hl : lo ≤ lo') (ht : t ≤ t') : Same X a c lo t :=
  fun s h1 h2 => (h' s h1 (by omega)).trans (h s h1 h2)
theorem Same.mono {X : Fix} {a b : Act} {lo t lo' t' : Nat} (h : Same X a b lo' t') (hl : lo ≤ lo') (ht : t ≤ t') : Same X a b lo t :=
  fun s h1 h2 => h s h1 (by omega)

/-- the piece of code writes 'out' from state a on (in a: what the piece reads of its own slots), and keeps the slots below lo, and those from T0 to t -/
def AFragP (X : Fix) (s : SC) (pre post : Act → Prop) (lo t : Nat) (out : Bytes) : Prop :=
  ∀ (a : Act) (w : World) (xs : Bytes) (Q : Exit → Act → World → Prop), AInv X a w xs → pre a → xs.length + out.length ≤ lim →
    (∀ a' w', AInv X a' w' (xs ++ out) → Same X a a' lo t → post a' → Q .normal a' w') → s.wp X.P Q a w
abbrev AFrag (X : Fix) (s : SC) (pre : Act → Prop) (lo t : Nat) (out : Bytes) : Prop := AFragP X s pre (fun _ => True) lo t out

section
variable {X : Fix} {a : Act} {w : World} {xs : Bytes}

theorem AInv.step {a' : Act} {w' : World} {ys : Bytes} {lo t : Nat} (hX : X.ok) (h : AInv X a w xs) (hs : a'.tmps.size = a.tmps.size) (hd : a'.defers = a.defers) (hsame : Same X a a' lo t) (hlv : X.c.ver < lo) (hlf : X.c.flex < lo)
    (ho : Own X.tU8 w' X.B (getT a' 1) ys) (hb : Below X.B w w') (hh : X.B ≤ w'.heap.size) : AInv X a' w' ys :=
  ⟨hs.trans h.size, hd.trans h.defers, (hsame _ hX.ver1 (.inl hlv)).trans h.ver, fun hn => (hsame _ hX.flex1 (.inl hlf)).trans (h.flex hn), ho, h.below.trans hb, hh⟩

theorem opsw_none {P : Program} {all : List SOp} {s : SOp} {r : List SOp} {K : Act → World → Prop} (hg : s.guard = none) (h : opw P s a w (opsw P all r K)) : opsw P all (s :: r) K a w := by
  unfold opsw
  rw [hg]
  exact h

theorem ops_mv {P : Program} {all : List SOp} {t s : Nat} {r : List SOp} {K : Act → World → Prop} (h : opsw P all r K (a.put (some t) (getT a s)) w) : opsw P all (mv t s :: r) K a w :=
  opsw_none rfl (opw_move h)
theorem ops_asg {P : Program} {all : List SOp} {t s : Nat} {r : List SOp} {K : Act → World → Prop} (h : opsw P all r K (a.put (some t) (getT a s)) w) : opsw P all (asg t s :: r) K a w :=
  opsw_none rfl (opw_assign h)
theorem ops_nilc {P : Program} {all : List SOp} {t s : Nat} {ad : Addr} {r : List SOp} {K : Act → World → Prop} (hx : getT a s = .pointer (some ad)) (h : opsw P all r K (a.put (some t) (.pointer (some ad))) w) : opsw P all (nilc t s :: r) K a w :=
  opsw_none rfl (opw_nilCheck hx h)
theorem ops_fa {P : Program} {all : List SOp} {t S s f off b o : Nat} {r : List SOp} {K : Act → World → Prop} (hS : fieldB P S f off = true) (hx : getT a s = .pointer (some ⟨b, o, none⟩)) (h : opsw P all r K (a.put (some t) (.pointer (some ⟨b, o + off, none⟩))) w) : opsw P all (fa t S s f :: r) K a w :=
  opsw_none rfl (opw_field hS hx h)
theorem ops_ld {P : Program} {all : List SOp} {t T s : Nat} {ad : Addr} {v : Value} {r : List SOp} {K : Act → World → Prop} (hT : oneB P T = true) (hx : getT a s = .pointer (some ad)) (hc : w.cell? ad = some v) (h : opsw P all r K (a.put (some t) v) w) : opsw P all (ld t T s :: r) K a w :=
  opsw_none rfl (opw_load_one hT hx hc h)
theorem ops_len {P : Program} {all : List SOp} {t T E n s len cap : Nat} {base : Option Addr} {r : List SOp} {K : Act → World → Prop} (hT : sliceB P T E n = true) (hx : getT a s = .slice base len cap) (h : opsw P all r K (a.put (some t) (.int .i64 (len : Int))) w) : opsw P all (lenOp t T s :: r) K a w :=
  opsw_none rfl (opw_len hT hx rfl h)
theorem ops_cal {P : Program} {all : List SOp} {t f : Nat} {args : List Nat} {r : List SOp} {K : Act → World → Prop} {R : Ending → World → Prop} (hf : FnOK P f) (hc : Calls P f ((args.map (getT a)).toArray) w R)
    (hR : ∀ e w', R e w' → ∃ v, e = .returned v ∧ opsw P all r K (a.put (some t) v) w') : opsw P all (cal t f args :: r) K a w := by
  obtain ⟨fn, h1, h2, h3⟩ := hf
  refine opsw_none rfl (opw_call (R := R) h1 h2 h3 ?_ hR)
  have : ((List.map Operand.tmp args).toArray).map a.eval = ((args.map (getT a)).toArray) := by simp [eval_tmp, Function.comp_def]
  rw [this]
  exact hc
theorem ops_nil {P : Program} {all : List SOp} {K : Act → World → Prop} (h : K a w) : opsw P all [] K a w := h

/-- a call that writes one value -/
theorem aCall_ok {f x t : Nat} {out : Bytes} {v : Value} {pre : World → Nat → Prop} (hX : X.ok) (hAP : AP X.P X.tU8 f #[v] pre out) (hxt : x < X.T0 ∧ x ≠ 1) (ht : X.T0 ≤ t) (htN : t + 3 ≤ X.N)
    (hpre : ∀ w, Below X.B X.w0 w → pre w X.B) : AFrag X (aCall f x t) (fun a => getT a x = v) X.T0 t out := by
  intro a w xs Q hi hx hl hQ
  have h1 := hX.oneT
  have hsz := hi.size
  refine SC.wp_reg ?_
  refine ops_mv (ops_mv ?_)
  refine ops_cal hAP.1 (R := fun e w' => ∃ dv', e = .returned dv' ∧ Own X.tU8 w' X.B dv' (xs ++ out) ∧ Below X.B w w' ∧ X.B ≤ w'.heap.size) ?_ ?_
  · have hc := hAP.2 w X.B (getT a 1) xs hi.own hi.heap hl (hpre w hi.below)
    have e : (([t, t + 1].map (getT ((a.put (some t) (getT a 1)).put (some (t + 1)) (getT (a.put (some t) (getT a 1)) x))) : List Value)).toArray = #[getT a 1] ++ #[v] := by
      simp (disch := first | omega | (simp only [size_put]; omega)) [getT_put, getT_put_ne, hx]
    rw [e]
    exact hc
  · rintro e w' ⟨dv', rfl, ho, hb, hh⟩
    refine ⟨dv', rfl, ops_asg (ops_nil ?_)⟩
    refine hQ _ _ (hi.step hX (lo := X.T0) (t := t) (by simp [size_put]) (by simp [defers_put]) ?_ hX.verT hX.flexT ?_ hb hh) ?_ trivial
    · intro s hs1 hs2
      simp (disch := first | omega | (simp only [size_put]; omega)) [getT_put_ne]
    · simp (disch := first | omega | (simp only [size_put]; omega)) [getT_put]
      exact ho
    · intro s hs1 hs2
      simp (disch := first | omega | (simp only [size_put]; omega)) [getT_put_ne]

theorem AFragP.seq {x y : SC} {pre mid pre2 post : Act → Prop} {lo t lo2 t2 : Nat} {o1 o2 : Bytes} (h1 : AFragP X x pre mid lo t o1) (h2 : AFragP X y pre2 post lo2 t2 o2)
    (hm : ∀ a a', pre a → Same X a a' lo t → mid a' → pre2 a') (hl : lo ≤ lo2) (ht : t ≤ t2) : AFragP X (.seq x y) pre post lo t (o1 ++ o2) := by
  intro a w xs Q hi hp hlen hQ
  refine SC.wp_seq (h1 a w xs _ hi hp (by simp at hlen; omega) ?_)
  intro a' w' hi' hs' hmid
  refine h2 a' w' _ Q hi' (hm _ _ hp hs' hmid) (by simp at hlen ⊢; omega) ?_
  intro a2 w2 hi2 hs2 hpost
  exact hQ a2 w2 (by rw [← List.append_assoc]; exact hi2) (hs'.trans hs2 hl ht) hpost

theorem AFragP.mono {x : SC} {pre pre' post post' : Act → Prop} {lo t lo' t' : Nat} {o : Bytes} (h : AFragP X x pre post lo t o) (hp : ∀ a, pre' a → pre a) (hq : ∀ a, post a → post' a) (hl : lo' ≤ lo) (ht : t' ≤ t) : AFragP X x pre' post' lo' t' o :=
  fun a w xs Q hi hpre hlen hQ => h a w xs Q hi (hp a hpre) hlen fun a' w' hi' hs' hpost => hQ a' w' hi' (hs'.mono hl ht) (hq _ hpost)

theorem AFrag.skip {pre : Act → Prop} {lo t : Nat} : AFrag X .skip pre lo t [] :=
  fun a w xs Q hi _ _ hQ => SC.wp_skip (hQ a w (by simpa using hi) (Same.refl _ _ _ _) trivial)

/-- a region that writes no octet: the state at its end is a list of values put into slots from t on (and into slot v) -/
theorem AFragP.quiet {l : List SOp} {pre post : Act → Prop} {lo t : Nat} (hX : X.ok) (hlv : X.c.ver < lo) (hlf : X.c.flex < lo)
    (h : ∀ a w xs K, AInv X a w xs → pre a → (∀ a', a'.tmps.size = a.tmps.size → a'.defers = a.defers → Same X a a' lo t → getT a' 1 = getT a 1 → post a' → K a' w) → opsw X.P l l K a w) :
    AFragP X (.reg l) pre post lo t [] := by
  intro a w xs Q hi hp _ hQ
  refine SC.wp_reg (h a w xs _ hi hp ?_)
  intro a' hs hd hsame h1 hpost
  refine hQ a' w (hi.step hX hs hd hsame hlv hlf ?_ (Below.refl _ _) hi.heap) hsame hpost
  rw [h1, List.append_nil]
  exact hi.own

/-- a statement under 'if isFlexible' -/
theorem fCond_ok {t m lo : Nat} {x y : Nat → SC} {pre : Act → Prop} {out : Bytes} (hX : X.ok) (hlo : lo ≤ X.T0) (hlv : X.c.ver < lo) (hlf : X.c.flex < lo) (ht : X.T0 ≤ t) (htN : t < X.N)
    (hst : ∀ a a', Same X a a' lo t → pre a → pre a')
    (hx : X.c.never = false → X.flex = true → AFrag X (x (t + 1)) pre lo (t + 1) out) (hy : X.flex = false → ∀ t', t ≤ t' → t' ≤ t + 1 + m → (t' = t ↔ X.c.never = true) → (t' = t ∨ t' = t + 1 + m) → AFrag X (y t') pre lo t' out) :
    AFrag X (fCond X.c t m x y) pre lo t out := by
  unfold fCond
  by_cases hn : X.c.never = true
  · rw [if_pos hn]
    exact hy (hX.never hn) t (Nat.le_refl _) (by omega) (by simp [hn]) (.inl rfl)
  · rw [if_neg hn]
    have hn' : X.c.never = false := by simpa using hn
    intro a w xs Q hi hp hlen hQ
    have hsz := hi.size
    refine SC.wp_seq (SC.wp_reg (ops_mv (ops_nil ?_)))
    have hS : Same X a (a.put (some t) (getT a X.c.flex)) lo t := by
      intro s hs1 hs2
      simp (disch := omega) [getT_put_ne]
    have hi' : AInv X (a.put (some t) (getT a X.c.flex)) w xs := by
      refine hi.step hX (size_put _ _ _) (defers_put _ _ _) hS hlv hlf ?_ (Below.refl _ _) hi.heap
      have := hX.oneT
      rw [getT_put_ne (by omega)]
      exact hi.own
    refine SC.wp_cond (t := X.flex) (by rw [eval_tmp, getT_put (by omega)]; exact hi.flex hn') ?_
    by_cases hf : X.flex = true
    · rw [if_pos hf]
      exact hx hn' hf _ w xs Q hi' (hst _ _ hS hp) hlen fun a' w' h1 h2 h3 => hQ a' w' h1 (hS.trans h2 (Nat.le_refl _) (by omega)) h3
    · rw [if_neg hf]
      exact hy (by simpa using hf) (t + 1 + m) (by omega) (by omega) (by constructor <;> intro h <;> simp_all; omega) (.inr rfl) _ w xs Q hi' (hst _ _ hS hp) hlen fun a' w' h1 h2 h3 => hQ a' w' h1 (hS.trans h2 (Nat.le_refl _) (by omega)) h3

/-- the code under a field's versions -/
theorem vCond_ok {h : Hd} {t lo : Nat} {body : SC} {pre : Act → Prop} {out : Bytes} (hX : X.ok) (hlo : lo ≤ X.T0) (hlv : X.c.ver < lo) (hlf : X.c.flex < lo) (ht : X.T0 ≤ t) (htN : t + vTmps h ≤ X.N)
    (hst : ∀ a a', Same X a a' lo t → pre a → pre a') 
    (hb : h.has X.ver = true → AFrag X body pre lo (t + vTmps h) out) :
    AFrag X (vCond X.I X.c h t body) pre lo t (if h.has X.ver then out else []) := by
  have h1 := hX.oneT
  unfold vCond
  by_cases c1 : h.from_ = 0 ∧ h.to < 0
  · rw [if_pos c1]
    have hh : h.has X.ver = true := by simp [Hd.has, c1.1, c1.2, hX.hver]
    rw [if_pos hh]
    exact (hb hh).mono (fun _ h => h) (fun _ h => h) (Nat.le_refl _) (by omega)
  · rw [if_neg c1]
    unfold vTmps at htN hb
    rw [if_neg c1] at htN hb
    by_cases c2 : h.to < 0
    · rw [if_pos c2] at htN hb ⊢
      intro a w xs Q hi hp hlen hQ
      have hsz := hi.size
      refine SC.wp_seq (SC.wp_reg (ops_mv (opsw_none rfl (opw_cmp (op := .geq) (k := .i16) (m := X.ver) (n := h.from_) (r := decide (X.ver ≥ h.from_)) ?_ rfl (by simp) (ops_nil ?_)))))
      · rw [eval_tmp, getT_put (by omega)]
        exact hi.ver
      have hS : Same X a ((a.put (some t) (getT a X.c.ver)).put (some (t + 1)) (.bool (decide (X.ver ≥ h.from_)))) lo t := by
        intro s hs1 hs2
        simp (disch := omega) [getT_put_ne]
      have hi' : AInv X ((a.put (some t) (getT a X.c.ver)).put (some (t + 1)) (.bool (decide (X.ver ≥ h.from_)))) w xs := by
        refine hi.step hX (by simp [size_put]) (by simp [defers_put]) hS hlv hlf ?_ (Below.refl _ _) hi.heap
        simp (disch := omega) [getT_put_ne]
        exact hi.own
      refine SC.wp_cond (t := decide (X.ver ≥ h.from_)) (by simp (disch := first | omega | (simp only [size_put]; omega)) [eval_tmp, getT_put]) ?_
      by_cases hv : h.from_ ≤ X.ver
      · have hh : h.has X.ver = true := by simp [Hd.has, c2, hv]
        rw [if_pos (by simpa using hv)]
        rw [if_pos hh] at hlen hQ
        exact hb hh _ w xs Q hi' (hst _ _ hS hp) hlen fun a' w' h1 h2 h3 => hQ a' w' h1 (hS.trans h2 (Nat.le_refl _) (by omega)) h3
      · have hh : h.has X.ver = false := by simp [Hd.has, hv]
        rw [if_neg (by simpa using hv)]
        rw [if_neg (by simp [hh])] at hlen hQ
        exact AFrag.skip (pre := fun _ => True) (lo := lo) (t := t) _ w xs Q hi' trivial hlen fun a' w' h1 h2 h3 => hQ a' w' h1 (hS.trans h2 (Nat.le_refl _) (Nat.le_refl _)) h3
    · rw [if_neg c2] at htN hb ⊢
      intro a w xs Q hi hp hlen hQ
      have hsz := hi.size
      refine SC.wp_seq (SC.wp_reg (ops_mv (opsw_none rfl (opw_cmp (op := .geq) (k := .i16) (m := X.ver) (n := h.from_) (r := decide (X.ver ≥ h.from_)) ?_ rfl (by simp) (ops_mv ?_)))))
      · rw [eval_tmp, getT_put (by omega)]
        exact hi.ver
      generalize ha1 : ((a.put (some t) (getT a X.c.ver)).put (some (t + 1)) (.bool (decide (X.ver ≥ h.from_)))) = a1
      have ha1v : getT a1 (t + 1) = .bool (decide (X.ver ≥ h.from_)) := by
        rw [← ha1]; simp (disch := first | omega | (simp only [size_put]; omega)) [getT_put]
      have ha1s : a1.tmps.size = X.N := by rw [← ha1]; simp [size_put, hsz]
      have ha1d : a1.defers = a.defers := by rw [← ha1]; simp [defers_put]
      have hS1 : ∀ s, s ≠ t → s ≠ t + 1 → getT a1 s = getT a s := by
        intro s h1 h2
        rw [← ha1]; simp (disch := omega) [getT_put_ne]
      rw [ha1v]
      have hfin : ∀ a', a'.tmps.size = a1.tmps.size → a'.defers = a1.defers → (∀ s, s < t → getT a' s = getT a1 s) → ∀ b : Bool, (b = decide (h.has X.ver = true)) → getT a' (t + 5) = .bool b →
          (SC.cond (.tmp (t + 5)) body .skip).wp X.P Q a' w := by
        intro a' hs hd hlow b hbv hv
        have hS : Same X a a' lo t := by
          intro s hs1 hs2
          rw [hlow s (by omega), hS1 s (by omega) (by omega)]
        have hi' : AInv X a' w xs := by
          refine hi.step hX (by rw [hs, ha1s, hsz]) (by rw [hd, ha1d]) hS hlv hlf ?_ (Below.refl _ _) hi.heap
          rw [hlow 1 (by omega), hS1 1 (by omega) (by omega)]
          exact hi.own
        refine SC.wp_cond (t := b) (by rw [eval_tmp, hv]) ?_
        by_cases hh : h.has X.ver = true
        · rw [if_pos (by simp [hbv, hh])]
          rw [if_pos hh] at hlen hQ
          exact hb hh _ w xs Q hi' (hst _ _ hS hp) hlen fun a' w' h1 h2 h3 => hQ a' w' h1 (hS.trans h2 (Nat.le_refl _) (by omega)) h3
        · rw [if_neg (by simp [hbv, hh])]
          rw [if_neg hh] at hlen hQ
          exact AFrag.skip (pre := fun _ => True) (lo := lo) (t := t) _ w xs Q hi' trivial hlen fun a' w' h1 h2 h3 => hQ a' w' h1 (hS.trans h2 (Nat.le_refl _) (Nat.le_refl _)) h3
      have hver1 : getT a1 X.c.ver = .int .i16 X.ver := by rw [hS1 _ (by omega) (by omega)]; exact hi.ver
      unfold opsw
      refine ⟨t + 2, decide (X.ver ≥ h.from_), rfl, by simp only [size_put]; omega, .inl (by simp (disch := first | omega | (simp only [size_put]; omega)) [getT_put]), ?_⟩
      by_cases hv : h.from_ ≤ X.ver
      · rw [if_pos (by simpa using hv)]
        refine opw_move ?_
        unfold opsw
        refine ⟨t + 2, decide (X.ver ≥ h.from_), rfl, by simp only [size_put]; omega, .inl (by simp (disch := first | omega | (simp only [size_put]; omega)) [getT_put, getT_put_ne]), ?_⟩
        rw [if_pos (by simpa using hv)]
        refine opw_cmp (op := .leq) (k := .i16) (m := X.ver) (n := h.to) (r := decide (X.ver ≤ h.to)) ?_ rfl (by simp) ?_
        · rw [eval_tmp, eval_tmp, getT_put (by simp only [size_put]; omega), getT_put_ne (by omega)]
          exact hver1
        refine opsw_none rfl (opw_pick (b := decide (X.ver ≥ h.from_)) ?_ (ops_nil ?_))
        · simp (disch := first | omega | (simp only [size_put]; omega)) [eval_tmp, getT_put, getT_put_ne]
        refine hfin _ (by simp [size_put]) (by simp [defers_put]) ?_ (decide (X.ver ≤ h.to)) ?_ ?_
        · intro s hs
          simp (disch := omega) [getT_put_ne]
        · simp [Hd.has, hv, c2]
        · have hd : decide (X.ver ≥ h.from_) = true := by simpa using hv
          simp (disch := first | omega | (simp only [size_put]; omega)) [eval_tmp, getT_put, getT_put_ne, hd]
      · rw [if_neg (by simpa using hv)]
        unfold opsw
        refine ⟨t + 2, decide (X.ver ≥ h.from_), rfl, by simp only [size_put]; omega, .inl (by simp (disch := first | omega | (simp only [size_put]; omega)) [getT_put, getT_put_ne]), ?_⟩
        rw [if_neg (by simpa using hv)]
        refine opsw_none rfl (opw_pick (b := decide (X.ver ≥ h.from_)) ?_ (ops_nil ?_))
        · simp (disch := first | omega | (simp only [size_put]; omega)) [eval_tmp, getT_put, getT_put_ne]
        refine hfin _ (by simp [size_put]) (by simp [defers_put]) ?_ false ?_ ?_
        · intro s hs
          simp (disch := omega) [getT_put_ne]
        · simp [Hd.has, hv]
        · have hd : decide (X.ver ≥ h.from_) = false := by simpa using hv
          simp (disch := first | omega | (simp only [size_put]; omega)) [eval_const, getT_put, hd]

/-- a struct's field into slot v -/
theorem aLoad_ok {S p f T v t off b o : Nat} {u : Value} {lo : Nat} (hX : X.ok) (hlo : lo ≤ v) (hlv : X.c.ver < lo) (hlf : X.c.flex < lo) (hv : v < X.T0) (hv1 : v ≠ 1) (ht : X.T0 ≤ t) (htN : t + 4 ≤ X.N) (hS : fieldB X.P S f off = true) (hT : oneB X.P T = true)
    (hb : b < X.B) (hc : X.w0.cell? ⟨b, o + off, none⟩ = some u) :
    AFragP X (aLoad S p f T v t) (fun a => getT a p = .pointer (some ⟨b, o, none⟩)) (fun a => getT a v = u) lo t [] := by
  have h1 := hX.oneT
  refine AFragP.quiet hX hlv hlf ?_
  intro a w xs K hi hp hK
  have hsz := hi.size
  refine ops_mv (ops_nilc (ad := ⟨b, o, none⟩) (by rw [getT_put (by omega)]; exact hp) (ops_fa hS (b := b) (o := o) (by rw [getT_put (by simp only [size_put]; omega)]) ?_))
  refine ops_ld hT (ad := ⟨b, o + off, none⟩) (v := u) (by rw [getT_put (by simp only [size_put]; omega)]) (by rw [hi.below.cell hb]; exact hc) (ops_asg (ops_nil ?_))
  refine hK _ (by simp [size_put]) (by simp [defers_put]) ?_ ?_ ?_
  · intro s hs1 hs2
    simp (disch := omega) [getT_put_ne]
  · simp (disch := omega) [getT_put_ne]
  · simp (disch := first | omega | (simp only [size_put]; omega)) [getT_put]

def okApp (I : Ids) (c : Ctx) (nul : Bool) : PK → Bool
  | .uuid => false
  | .str => (c.never || (aFn I nul .str).1 != 0) && (aFn I nul .str).2 != 0
  | .bytes => (c.never || (aFn I nul .bytes).1 != 0) && (aFn I nul .bytes).2 != 0
  | k => !nul && (aFn I nul k).2 != 0

theorem bytesAt_below {w0 w : World} {B : Nat} {base : Option Addr} {bs : Bytes} (h : BytesAt w0 (· < B) base bs) (hb : Below B w0 w) : BytesAt w (· < B) base bs := by
  rcases h with h | ⟨b, o, h1, h2, h3⟩
  · exact .inl h
  · exact .inr ⟨b, o, h1, h2, fun j u hu => by rw [hb.cell h2]; exact h3 j u hu⟩

theorem stable_slot {x lo t : Nat} {v : Value} (hx : x < lo) (hx1 : x ≠ 1) : ∀ a a', Same X a a' lo t → getT a x = v → getT a' x = v :=
  fun _ _ hs h => (hs x hx1 (.inl hx)).trans h

theorem aApp_ok {nul : Bool} {k : PK} {x t lo : Nat} {tr : Tree} {v : Value} (hX : X.ok) (hok : okApp X.I X.c nul k = true) (hv : PVal X.w0 (· < X.B) nul tr k v)
    (hlo : lo ≤ X.T0) (hlv : X.c.ver < lo) (hlf : X.c.flex < lo) (hxl : x < lo) (hx1 : x ≠ 1) (ht : X.T0 ≤ t) (htN : t + aAppT X.c k ≤ X.N) :
    AFrag X (aApp X.I X.c nul k x t) (fun a => getT a x = v) lo t (wPrim X.flex (nul && tr.null) tr k) := by
  have hxT : x < X.T0 ∧ x ≠ 1 := ⟨by omega, hx1⟩
  have plain : ∀ (f : Nat) (pre : World → Nat → Prop) (out : Bytes), AP X.P X.tU8 f #[v] pre out → (∀ w, Below X.B X.w0 w → pre w X.B) → X.T0 ≤ t → t + 3 ≤ X.N → AFrag X (aCall f x t) (fun a => getT a x = v) lo t out :=
    fun f pre out hAP hp h1 h2 => (aCall_ok hX hAP hxT h1 h2 hp).mono (fun _ h => h) (fun _ h => h) hlo (Nat.le_refl _)
  have parted : ∀ (f1 f2 : Nat) (pre1 pre2 : World → Nat → Prop) (out : Bytes), (X.c.never = false → X.flex = true → AP X.P X.tU8 f1 #[v] pre1 out) → (X.flex = false → AP X.P X.tU8 f2 #[v] pre2 out) →
      (∀ w, Below X.B X.w0 w → pre1 w X.B) → (∀ w, Below X.B X.w0 w → pre2 w X.B) → t + fTmps X.c 3 3 ≤ X.N → AFrag X (fCond X.c t 3 (aCall f1 x) (aCall f2 x)) (fun a => getT a x = v) lo t out := by
    intro f1 f2 pre1 pre2 out h1 h2 hp1 hp2 hN
    unfold fTmps at hN
    refine fCond_ok hX hlo hlv hlf ht (by split at hN <;> omega) (stable_slot hxl hx1) (fun hn hf => ?_) (fun hf t' ht1 ht2 hiff hor => ?_)
    · exact (aCall_ok hX (h1 hn hf) hxT (by omega) (by rw [if_neg (by simp [hn])] at hN; omega) hp1).mono (fun _ h => h) (fun _ h => h) hlo (Nat.le_refl _)
    · refine (aCall_ok hX (h2 hf) hxT (by omega) ?_ hp2).mono (fun _ h => h) (fun _ h => h) hlo (Nat.le_refl _)
      by_cases hn : X.c.never = true
      · rw [if_pos hn] at hN
        have := hiff.2 hn
        omega
      · rw [if_neg hn] at hN
        rcases hor with h | h
        · exact absurd (hiff.1 h) hn
        · omega
  unfold aApp
  cases k with
  | bool =>
    obtain ⟨y, rfl, hy⟩ := hv
    simp [okApp, aFn] at hok
    simp only [PK.parted, Bool.false_eq_true, if_false, aFn]
    have := plain X.I.aBool _ _ (hX.ka.bool hok.2 y) (fun _ _ => trivial) ht (by simp [aAppT, PK.parted] at htN; omega)
    have e : wPrim X.flex (nul && tr.null) tr .bool = [if y then 1 else 0] := by cases y <;> simp_all [wPrim] <;> rfl
    rw [e]
    exact this
  | i8 =>
    obtain rfl := hv
    simp [okApp, aFn] at hok
    exact plain X.I.aI8 _ _ (hX.ka.i8 hok.2 _) (fun _ _ => trivial) ht (by simp [aAppT, PK.parted] at htN; omega)
  | i16 =>
    obtain rfl := hv
    simp [okApp, aFn] at hok
    exact plain X.I.aI16 _ _ (hX.ka.i16 hok.2 _) (fun _ _ => trivial) ht (by simp [aAppT, PK.parted] at htN; omega)
  | i32 =>
    obtain rfl := hv
    simp [okApp, aFn] at hok
    exact plain X.I.aI32 _ _ (hX.ka.i32 hok.2 _) (fun _ _ => trivial) ht (by simp [aAppT, PK.parted] at htN; omega)
  | i64 =>
    obtain rfl := hv
    simp [okApp, aFn] at hok
    exact plain X.I.aI64 _ _ (hX.ka.i64 hok.2 _) (fun _ _ => trivial) ht (by simp [aAppT, PK.parted] at htN; omega)
  | u16 =>
    obtain rfl := hv
    simp [okApp, aFn] at hok
    exact plain X.I.aU16 _ _ (hX.ka.u16 hok.2 _) (fun _ _ => trivial) ht (by simp [aAppT, PK.parted] at htN; omega)
  | uuid => exact hv.elim
  | str =>
    simp only [aAppT, PK.parted, if_true] at htN ⊢
    cases nul with
    | true =>
      simp [okApp, aFn] at hok
      simp only [PVal, if_true] at hv
      simp only [aFn, if_true, Bool.true_and]
      by_cases hnl : tr.null = true
      · rw [if_pos hnl] at hv
        subst hv
        have e : ∀ fl : Bool, wPrim fl tr.null tr .str = counted fl true 0 2 := by intro fl; simp [wPrim, hnl]
        refine parted _ _ (fun _ _ => True) (fun _ _ => True) _ (fun hn hf => ?_) (fun hf => ?_) (fun _ _ => trivial) (fun _ _ => trivial) htN
        · rw [e, hf]; exact hX.ka.cnstr0 (by simpa [hn] using hok.1)
        · rw [e, hf]; exact hX.ka.nstr0 hok.2
      · rw [if_neg hnl] at hv
        obtain ⟨b', o', s, rfl, hF, hc, hs, hl⟩ := hv
        have e : ∀ fl : Bool, wPrim fl tr.null tr .str = counted fl false s.data.toList.length 2 ++ s.data.toList := by
          intro fl
          have hw : whole tr.s = tr.s := List.take_of_length_le hl
          simp only [wPrim, hnl, Bool.false_eq_true, if_false, hw, hs]
        refine parted _ _ (fun w B => b' < B ∧ w.cell? ⟨b', o', none⟩ = some (.string s)) (fun w B => b' < B ∧ w.cell? ⟨b', o', none⟩ = some (.string s)) _ (fun hn hf => ?_) (fun hf => ?_) (fun w hb => ⟨hF, by rw [hb.cell hF]; exact hc⟩) (fun w hb => ⟨hF, by rw [hb.cell hF]; exact hc⟩) htN
        · rw [e, hf]; exact hX.ka.cnstr (by simpa [hn] using hok.1) b' o' s (by rw [hs]; exact hl)
        · rw [e, hf]; exact hX.ka.nstr hok.2 b' o' s (by rw [hs]; exact hl)
    | false =>
      simp [okApp, aFn] at hok
      simp only [PVal, Bool.false_eq_true, if_false] at hv
      simp only [aFn, Bool.false_eq_true, if_false, Bool.false_and]
      obtain ⟨s, rfl, hs, hl⟩ := hv
      have e : ∀ fl : Bool, wPrim fl false tr .str = counted fl false s.data.toList.length 2 ++ s.data.toList := by
        intro fl
        have hw : whole tr.s = tr.s := List.take_of_length_le hl
        simp only [wPrim, Bool.false_eq_true, if_false, hw, hs]
      refine parted _ _ (fun _ _ => True) (fun _ _ => True) _ (fun hn hf => ?_) (fun hf => ?_) (fun _ _ => trivial) (fun _ _ => trivial) htN
      · rw [e, hf]; exact hX.ka.cstr (by simpa [hn] using hok.1) s (by rw [hs]; exact hl)
      · rw [e, hf]; exact hX.ka.str hok.2 s (by rw [hs]; exact hl)
  | bytes =>
    simp only [aAppT, PK.parted, if_true] at htN ⊢
    obtain ⟨base, cap, rfl, hv⟩ := hv
    cases nul with
    | true =>
      simp [okApp, aFn] at hok
      simp only [aFn, if_true, Bool.true_and] at hv ⊢
      by_cases hnl : tr.null = true
      · rw [if_pos hnl] at hv
        subst hv
        have e : ∀ fl : Bool, wPrim fl true tr .bytes = counted fl true 0 4 := by intro fl; simp [wPrim]
        simp only [hnl, if_true] at parted ⊢
        refine parted _ _ (fun _ _ => True) (fun _ _ => True) _ (fun hn hf => ?_) (fun hf => ?_) (fun _ _ => trivial) (fun _ _ => trivial) htN
        · rw [e, hf]; exact hX.ka.cnbytes0 (by simpa [hn] using hok.1) cap
        · rw [e, hf]; exact hX.ka.nbytes0 hok.2 cap
      · rw [if_neg hnl] at hv
        obtain ⟨hv, hl, hne⟩ := hv
        have hnf : tr.null = false := by simpa using hnl
        have e : ∀ fl : Bool, wPrim fl false tr .bytes = counted fl false tr.s.length 4 ++ tr.s := by
          intro fl
          have hw : whole tr.s = tr.s := List.take_of_length_le hl
          simp only [wPrim, Bool.false_eq_true, if_false, hw]
        simp only [hnf, Bool.false_eq_true, if_false, Bool.and_false] at parted ⊢
        refine parted _ _ (fun w B => BytesAt w (· < B) base tr.s) (fun w B => BytesAt w (· < B) base tr.s) _ (fun hn hf => ?_) (fun hf => ?_) (fun w hb => bytesAt_below hv hb) (fun w hb => bytesAt_below hv hb) htN
        · rw [e, hf]; exact hX.ka.cnbytes (by simpa [hn] using hok.1) base cap tr.s hl (hne trivial)
        · rw [e, hf]; exact hX.ka.nbytes hok.2 base cap tr.s hl (hne trivial)
    | false =>
      simp [okApp, aFn] at hok
      simp only [aFn, Bool.false_eq_true, if_false, Bool.false_and] at hv parted ⊢
      obtain ⟨hv, hl, -⟩ := hv
      have e : ∀ fl : Bool, wPrim fl false tr .bytes = counted fl false tr.s.length 4 ++ tr.s := by
        intro fl
        have hw : whole tr.s = tr.s := List.take_of_length_le hl
        simp only [wPrim, Bool.false_eq_true, if_false, hw]
      refine parted _ _ (fun w B => BytesAt w (· < B) base tr.s) (fun w B => BytesAt w (· < B) base tr.s) _ (fun hn hf => ?_) (fun hf => ?_) (fun w hb => bytesAt_below hv hb) (fun w hb => bytesAt_below hv hb) htN
      · rw [e, hf]; exact hX.ka.cbytes (by simpa [hn] using hok.1) base cap tr.s hl
      · rw [e, hf]; exact hX.ka.bytes hok.2 base cap tr.s hl

end
end Go.Proofs.Ytioodpjcpadkoaa.K
