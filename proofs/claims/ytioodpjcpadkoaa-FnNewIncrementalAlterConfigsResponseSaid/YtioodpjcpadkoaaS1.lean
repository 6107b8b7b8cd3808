/- The rule for a statement whose order is open: what only looks goes first, and what acts goes when nothing else can. No condition. -/
import Derived.Test.YtioodpjcpadkoaaK2
import Derived.OrdersHeld
namespace Go.Proofs.Ytioodpjcpadkoaa.K
open Go
set_option linter.unusedSimpArgs false
set_option linter.unusedVariables false

def sLooks (ops : List SOp) (o : SOp) : List Tmp :=
  (o.op.operands.toList.filterMap fun | .tmp t => some t | _ => none) ++
  (match o.guard with
   | some (g, _) => ((ops[g]?).bind (·.dst)).toList
   | none => [])

def sApart (ops : List SOp) (x y : SOp) : Bool :=
  (match x.dst with
   | some d => !(sLooks ops y).contains d && y.dst != some d
   | none => true) &&
  (match y.dst with
   | some d => !(sLooks ops x).contains d
   | none => true)

def sReady (after : List (List Nat)) (listed : Array Bool) : List Nat :=
  (List.range after.length).filter fun i =>
    !listed.getD i true && ((after[i]?).map (·.all fun j => listed.getD j false)).getD false

def sFree (ops : List SOp) (after : List (List Nat)) (listed : Array Bool) (i : Nat) : Bool :=
  match ops[i]? with
  | none => false
  | some oi => (List.range after.length).all fun j => j == i || listed.getD j true || match ops[j]?, after[j]? with
      | some oj, some l => l.contains i || sApart ops oi oj
      | _, _ => true

def sNoSel (ops : List SOp) : Bool := ops.all fun o => match o.op with | .select .. => false | _ => true

theorem operands_strip (o : Op) : (stripOp o).operands = o.operands := by
  unfold stripOp
  split <;> rfl

section
variable {P : Program} {ops : Array Oper}

def aft (o : Oper) : List Nat := (o.after.toList.filter (Region.binds .any)).map (·.on)

theorem looks_strip (o : Oper) : sLooks (ops.toList.map sop) (sop o) = o.looksAt ops := by
  unfold sLooks Oper.looksAt
  show List.filterMap _ (stripOp o.op).operands.toList ++ _ = _
  rw [operands_strip]
  congr 1
  show (match o.guard with | some (g, _) => (((ops.toList.map sop)[g]?).bind (·.dst)).toList | none => []) = _
  cases o.guard with
  | none => rfl
  | some g =>
    simp only [List.getElem?_map, Array.getElem?_toList]
    cases ops[g.1]? <;> rfl

theorem apart_strip (x y : Oper) : sApart (ops.toList.map sop) (sop x) (sop y) = x.apart ops y := by
  unfold sApart Oper.apart
  rw [looks_strip, looks_strip]
  rfl

theorem all_filter_on (l : List Edge) (listed : Array Bool) : (l.filter (Region.binds .any)).all (fun e => listed.getD e.on false) = l.all fun e => !Region.binds .any e || listed.getD e.on false := by
  induction l with
  | nil => rfl
  | cons e l ih =>
    simp only [List.filter_cons, List.all_cons]
    cases h : Region.binds .any e <;> simp [ih]

theorem ready_strip (listed : Array Bool) : sReady (ops.toList.map aft) listed = Region.ready .any ops listed := by
  unfold sReady Region.ready
  rw [List.length_map, Array.length_toList]
  congr 1
  funext i
  congr 1
  simp only [List.getElem?_map, Array.getElem?_toList]
  cases ops[i]? with
  | none => rfl
  | some o =>
    simp only [Option.map_some, Option.getD_some, aft, List.all_map]
    rw [← Array.all_toList]
    exact all_filter_on _ _

theorem any_filter_on (l : List Edge) (i : Nat) : ((l.filter (Region.binds .any)).map (·.on)).contains i = l.any fun e => Region.binds .any e && e.on == i := by
  induction l with
  | nil => rfl
  | cons e l ih =>
    simp only [List.filter_cons, List.any_cons]
    cases h : Region.binds .any e
    · simpa using ih
    · simp only [if_true, List.map_cons, List.contains_cons, ih, Bool.true_and]
      congr 1
      exact Bool.beq_comm

theorem free_strip (listed : Array Bool) (i : Nat) : sFree (ops.toList.map sop) (ops.toList.map aft) listed i = Region.free .any ops listed i := by
  unfold sFree Region.free
  rw [List.length_map, Array.length_toList]
  simp only [List.getElem?_map, Array.getElem?_toList]
  cases hi : ops[i]? with
  | none => rfl
  | some oi =>
    simp only [Option.map_some]
    congr 1
    funext j
    congr 1
    cases hj : ops[j]? with
    | none => rfl
    | some oj =>
      simp only [Option.map_some]
      rw [apart_strip]
      congr 1
      rw [← Array.any_toList]
      exact any_filter_on _ _

theorem noSel_strip : sNoSel (ops.toList.map sop) = Region.noSelect ops := by
  unfold sNoSel Region.noSelect
  rw [List.all_map, ← Array.all_toList]
  congr 1
  funext o
  show (match stripOp o.op with | .select .. => false | _ => true) = _
  unfold stripOp
  cases o.op <;> try rfl
  rename_i c
  obtain ⟨f, x, y⟩ := c
  cases f <;> rfl

/-- it only looks: in any world that meets S it gives v -/
def opq (P : Program) (S : World → Prop) (s : SOp) (a : Act) (v : Value) : Prop :=
  ∀ o : Oper, sop o = s → ∀ w, S w → (execOp a.eval o).run P w = .ok (.value v) w

/-- the operations in the order of the list; those with 'true' only look -/
def dregw (P : Program) (S : World → Prop) (ops : List SOp) : List (Nat × Bool) → (Act → World → Prop) → Act → World → Prop
  | [], K, a, w => K a w
  | (i, q) :: r, K, a, w => ∃ s, ops[i]? = some s ∧
    match s.guard with
    | none => if q then ∃ v, opq P S s a v ∧ dregw P S ops r K (a.put s.dst v) w else opw P s a w (fun a' w' => S w' ∧ dregw P S ops r K a' w')
    | some (j, want) => ∃ (dj : Nat) (b : Bool), (ops[j]?).bind (·.dst) = some dj ∧ dj < a.tmps.size ∧ gv (getT a dj) want b ∧
        if b = want then (if q then ∃ v, opq P S s a v ∧ dregw P S ops r K (a.put s.dst v) w else opw P s a w (fun a' w' => S w' ∧ dregw P S ops r K a' w'))
        else dregw P S ops r K (a.put s.dst undef) w

def chk (ops : List SOp) (after : List (List Nat)) : List (Nat × Bool) → Array Bool → Bool
  | [], listed => (sReady after listed).isEmpty
  | (i, q) :: r, listed => (if q then sFree ops after listed i && (sReady after listed).contains i else decide (sReady after listed = [i])) && chk ops after r (listed.setIfInBounds i true)

theorem dreg_sound {S : World → Prop} {Q : Exit → Act → World → Prop} {K : Act → World → Prop} (hQ : ∀ c a w, ¬ Q (.panic c) a w) (hK : ∀ a w, K a w → Q .normal a w) (hns : Region.noSelect ops = true) :
    ∀ (π : List (Nat × Bool)) (fuel : Nat) (listed : Array Bool) (a : Act) (w : World), π.length ≤ fuel → chk (ops.toList.map sop) (ops.toList.map aft) π listed = true → S w →
      dregw P S (ops.toList.map sop) π K a w → wpAnyH P .any ops Q S fuel listed a w
  | [], fuel, listed, a, w, _, hc, _, h => by
    simp only [chk, ready_strip, List.isEmpty_iff] at hc
    exact wpAnyH_done hc (hK _ _ h) fuel
  | (i, q) :: r, fuel, listed, a, w, hl, hc, hS, h => by
    obtain ⟨fuel, rfl⟩ : ∃ f, fuel = f + 1 := ⟨fuel - 1, by simp at hl; omega⟩
    have hl' : r.length ≤ fuel := by simp at hl; omega
    simp only [chk, Bool.and_eq_true, ready_strip, free_strip] at hc
    obtain ⟨hc1, hc2⟩ := hc
    unfold dregw at h
    obtain ⟨s, hs, h⟩ := h
    simp only [List.getElem?_map, Array.getElem?_toList] at hs
    obtain ⟨o, ho, rfl⟩ := Option.map_eq_some_iff.1 hs
    have act : Region.wanted o (yielded ops a.tmps) = true → (if q = true then ∃ v, opq P S (sop o) a v ∧ dregw P S (ops.toList.map sop) r K (a.put (sop o).dst v) w else opw P (sop o) a w (fun a' w' => S w' ∧ dregw P S (ops.toList.map sop) r K a' w')) → wpAnyH P .any ops Q S (fuel + 1) listed a w := by
      intro hw h
      cases q with
      | true =>
        simp only [if_true, Bool.and_eq_true] at hc1 h
        obtain ⟨v, hv, h⟩ := h
        exact wpAnyH_take ho hns hc1.1 hc1.2 (fun c a w hq => absurd hq (hQ _ _ _)) (.inl ⟨hw, fun w hS => hv o rfl w hS⟩) hS (dreg_sound hQ hK hns r fuel _ _ w hl' hc2 hS h)
      | false =>
        simp only [if_false, Bool.false_eq_true, decide_eq_true_eq] at hc1 h
        refine wpAnyH_all hc1 (by simp) ?_
        intro i' hi'
        simp at hi'
        subst hi'
        unfold wpOp
        simp only [ho]
        rw [if_pos hw]
        exact .inl (h o _ Q rfl fun a' w' hq => ⟨hq.1, dreg_sound hQ hK hns r fuel _ _ w' hl' hc2 hq.1 hq.2⟩)
    have hgo : (sop o).guard = o.guard := rfl
    rw [hgo] at h
    cases hg : o.guard with
    | none =>
      rw [hg] at h
      exact act (by simp only [Region.wanted, hg]) h
    | some g =>
      obtain ⟨j, want⟩ := g
      rw [hg] at h
      obtain ⟨dj, b, hj, hlt, hb, h⟩ := h
      have hyj := wanted_of_gv hg hj hlt hb
      by_cases hbw : b = want
      · rw [if_pos hbw] at h
        exact act (by rw [hyj]; subst hbw; simp) h
      · rw [if_neg hbw] at h
        have hw : Region.wanted o (yielded ops a.tmps) = false := by rw [hyj]; simpa using hbw
        have hrest := dreg_sound (Q := Q) hQ hK hns r fuel _ _ w hl' hc2 hS h
        cases q with
        | true =>
          simp only [if_true, Bool.and_eq_true] at hc1
          exact wpAnyH_take ho hns hc1.1 hc1.2 (fun c a w hq => absurd hq (hQ _ _ _)) (.inr ⟨hw, rfl⟩) hS hrest
        | false =>
          simp only [if_false, Bool.false_eq_true, decide_eq_true_eq] at hc1
          refine wpAnyH_all hc1 (by simp) ?_
          intro i' hi'
          simp at hi'
          subst hi'
          unfold wpOp
          simp only [ho]
          rw [if_neg (by simp [hw])]
          exact ⟨hS, hrest⟩

end

theorem SC.wp_dreg {P : Program} {Q : Exit → Act → World → Prop} {a : Act} {w : World} {l : List SOp} {after : List (List Nat)} (hm : P.follows .mixedOrders = true) (S : World → Prop) (π : List (Nat × Bool))
    (hns : sNoSel l = true) (hc : chk l after π (Array.replicate after.length false) = true) (hlen : π.length ≤ after.length) (hS : S w.drew)
    (h : dregw P S l π (Q .normal) a w.drew) : (SC.dreg l after).wp P Q a w := by
  intro c hcd
  cases c <;> simp [strip] at hcd
  rename_i id ops draw
  split at hcd
  · rename_i hd
    subst hd
    simp only [SC.dreg.injEq] at hcd
    obtain ⟨rfl, rfl⟩ := hcd
    let Q' : Exit → Act → World → Prop := fun e a w => match e with | .panic _ => False | _ => Q e a w
    have hQ' : ∀ e a w, Q' e a w → Q e a w := by
      intro e a w h
      cases e <;> first | exact h | exact h.elim
    refine Go.wp_mono ?_ hQ'
    rw [noSel_strip] at hns
    have haft : (ops.toList.map fun o => (o.after.toList.filter (Region.binds .any)).map (·.on)) = ops.toList.map aft := rfl
    rw [haft] at hc hlen
    have hsz : (ops.toList.map aft).length = ops.size := by simp
    rw [hsz] at hc hlen
    exact wp_region_held hm (dreg_sound (S := S) (K := Q .normal) (Q := Q') (fun c a w h => h.elim) (fun a w h => h) hns π ops.size _ a _ hlen hc hS h)
  · simp at hcd

end Go.Proofs.Ytioodpjcpadkoaa.K
