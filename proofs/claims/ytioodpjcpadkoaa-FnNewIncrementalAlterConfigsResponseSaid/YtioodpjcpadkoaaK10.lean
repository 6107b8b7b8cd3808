/- A call of a message's AppendTo (behind nil) writes what the schema says of what stands in memory. No condition. -/
import Derived.Test.YtioodpjcpadkoaaK9
namespace Go.Proofs.Ytioodpjcpadkoaa.K
open Go Go.RowKit Go.Proofs.Ytioodpjcpadkoaa.T
section
variable {X : Fix}

theorem AList.wp_append {pre : Act → Prop} {lo t : Nat} {l rest : List SC} {o : Bytes} {Q : Exit → Act → World → Prop} (hne : rest ≠ []) (h : AList X pre lo t l o) (hst : ∀ a a', Same X a a' lo t → pre a → pre a') :
    ∀ (a : Act) (w : World) (xs : Bytes), AInv X a w xs → pre a → xs.length + o.length ≤ lim → (∀ a' w', AInv X a' w' (xs ++ o) → Same X a a' lo t → (seqs rest).wp X.P Q a' w') → (seqs (l ++ rest)).wp X.P Q a w := by
  induction h with
  | nil =>
    intro a w xs hi hp hlen hQ
    exact hQ a w (by simpa using hi) (Same.refl _ _ _ _)
  | cons h1 _ ih =>
    intro a w xs hi hp hlen hQ
    rw [List.cons_append, seqs_cons (by simp [hne])]
    rw [List.length_append] at hlen
    refine SC.wp_seq (h1 a w xs _ hi hp (by omega) ?_)
    intro a' w' hi' hs' _
    refine ih a' w' _ hi' (hst _ _ hs' hp) (by rw [List.length_append]; omega) ?_
    intro a2 w2 hi2 hs2
    exact hQ a2 w2 (by rw [← List.append_assoc]; exact hi2) (hs'.trans hs2 (Nat.le_refl _) (Nat.le_refl _))

/-- the fields, the tags, and the return -/
theorem top_mid {S b o : Nat} {tags : Option (Nat × Nat)} {fs : Fs} {v t : Nat} {ts : List Tree} {u : List (Nat × Bytes)} {Q : Exit → Act → World → Prop} {a : Act} {w : World} (hX : X.ok) (hvT : v + nVs fs ≤ X.T0) (ht : X.T0 ≤ t) (htN : t + aFT X.c fs + tagsT tags + 1 ≤ X.N)
    (hlv : X.c.ver < v) (hlf : X.c.flex < v) (hv : 5 < v) (hb : b < X.B) (htags : okTags X.P X.I X.c S tags = true) (hfs : okFs X.P X.I X.c X.tU8 S fs = true)
    (hH : HFs X.G X.w0 (· < X.B) X.ver X.flex fs b o ts) (hT : TagsAt X.G X.w0 (· < X.B) X.flex b o tags u) (hi : AInv X a w []) (hp : getT a 0 = .pointer (some ⟨b, o, none⟩))
    (hlim : (wFs X.ver X.flex fs ts ++ wTags X.flex u).length ≤ lim)
    (hQ : ∀ a' w' dv, a'.defers = [] → getT a' 4 = dv → Own X.tU8 w' X.B dv (wFs X.ver X.flex fs ts ++ wTags X.flex u) → Below X.B X.w0 w' → Q .ret a' w') :
    (seqs ((aFs X.I X.c S 0 v t 0 fs ++ aTagsL X.I X.c S 0 tags (t + aFT X.c fs)) ++ [.reg [mv (t + aFT X.c fs + tagsT tags) 1, asg 4 (t + aFT X.c fs + tagsT tags)], .ret])).wp X.P Q a w := by
  have h1 := hX.oneT
  have hA := aFs_ok hX fs S 0 v t 0 b o ts hfs hH hb (by omega) (by omega) hlv hlf (by omega) hvT ht (by omega)
  have hTg := aTagsL_ok (X := X) (S := S) (p := 0) (t := t + aFT X.c fs) (b := b) (o := o) (lo := v) (u := u) hX (by omega) hlv hlf (by omega) (by omega) (by omega) (by omega) hb htags hT
  refine (hA.append (hTg.mono (Nat.le_refl _) (by omega))).wp_append (by simp) (stable_slot (by omega) (by omega)) a w [] hi hp (by simpa using hlim) ?_
  intro a' w' hi' _
  have hsz := hi'.size
  rw [List.nil_append] at hi'
  refine SC.wp_seq (SC.wp_reg (ops_mv (ops_asg (ops_nil ?_))))
  refine SC.wp_ret (hQ _ _ (getT a' 1) (by simp [defers_put, hi'.defers]) ?_ hi'.own hi'.below)
  rw [getT_put (by simp only [size_put]; omega), getT_put (by omega)]
end

def flexAt (flex : Option Int) (ver : Int) : Bool := match flex with | none => false | some n => decide (n ≤ ver)

/-- what is asked of a message's numbers -/
def okTop (P : Program) (I : Ids) (tU8 S t N : Nat) (flex : Option Int) (tags : Option (Nat × Nat)) (fs : Fs) : Bool :=
  decide (v0Of flex + nVs fs ≤ t) && decide (t1Of t flex + aFT (ctxOf flex) fs + tagsT tags + 1 ≤ N) && fieldB P S 0 0 && oneB P I.tI16 && okTags P I (ctxOf flex) S tags && okFs P I (ctxOf flex) tU8 S fs

theorem appendTo_calls {P : Program} {I : Ids} {tU8 : Nat} {G : List (Nat × Bytes) → Prop} {f S t : Nat} {fn : Func} {flex : Option Int} {tags : Option (Nat × Nat)} {fs : Fs} (hka : KA G P I tU8)
    (hf : P.funcs[f]? = some fn) (hb : fn.body.map strip = some (aTop I S t flex tags fs)) (hr : fn.results = #[.tmp 4]) (hok : okTop P I tU8 S t fn.ntmps flex tags fs = true)
    (w : World) (b o : Nat) (ver : Int) (ts : List Tree) (u : List (Nat × Bytes)) (hbB : b < w.heap.size) (hver : w.cell? ⟨b, o, none⟩ = some (.int .i16 ver)) (hv0 : 0 ≤ ver)
    (hH : HFs G w (· < w.heap.size) ver (flexAt flex ver) fs b o ts) (hT : TagsAt G w (· < w.heap.size) (flexAt flex ver) b o tags u)
    (hlim : (wFs ver (flexAt flex ver) fs ts ++ wTags (flexAt flex ver) u).length ≤ lim) :
    Calls P f #[.pointer (some ⟨b, o, none⟩), .slice none 0 0] w fun e w' => ∃ dv, e = .returned dv ∧ Own tU8 w' w.heap.size dv (wFs ver (flexAt flex ver) fs ts ++ wTags (flexAt flex ver) u) ∧ Below w.heap.size w w' := by
  unfold okTop at hok
  simp only [Bool.and_eq_true, decide_eq_true_eq] at hok
  obtain ⟨⟨⟨⟨⟨h1, h2⟩, h3⟩, h4⟩, h5⟩, h6⟩ := hok
  obtain ⟨c, hc, hs⟩ : ∃ c, fn.body = some c ∧ strip c = aTop I S t flex tags fs := by
    cases hc : fn.body with
    | none => simp [hc] at hb
    | some c => exact ⟨c, rfl, by simpa [hc] using hb⟩
  refine calls_of_wp hf hc ?_
  generalize hR : bodyPost P fn _ = Q
  suffices h : (aTop I S t flex tags fs).wp P Q { tmps := #[.pointer (some ⟨b, o, none⟩), .slice none 0 0] ++ Array.replicate (fn.ntmps - 2) undef, defers := [] } w from h c hs
  have hQ : ∀ a w' dv, a.defers = [] → getT a 4 = dv → Own tU8 w' w.heap.size dv (wFs ver (flexAt flex ver) fs ts ++ wTags (flexAt flex ver) u) → Below w.heap.size w w' → Q .ret a w' := by
    intro a w' dv hd h4 ho hbl
    subst hR
    exact bodyPost_ret (results_tmp hr _ _ _) hd ⟨_, rfl, by rw [← h4] at ho; exact ho, hbl⟩
  clear hR hs hc hb hf hr
  have hown0 : Own tU8 w w.heap.size (.slice none 0 0) [] := World.ownsRow_nil _ _ _ _
  have ht5 : 6 ≤ t ∧ t + 6 ≤ fn.ntmps := by cases flex <;> simp [v0Of, t1Of] at h1 h2 <;> omega
  generalize ha0 : ({ tmps := #[.pointer (some ⟨b, o, none⟩), .slice none 0 0] ++ Array.replicate (fn.ntmps - 2) undef, defers := [] } : Act) = a0
  have h00 : getT a0 0 = .pointer (some ⟨b, o, none⟩) := by rw [← ha0]; simp [getT, Array.getD]
  have h01 : getT a0 1 = .slice none 0 0 := by
    rw [← ha0]
    simp only [getT, Array.getD_eq_getD_getElem?]
    rw [Array.getElem?_append_left (by simp)]
    rfl
  have hd0 : a0.defers = [] := by rw [← ha0]
  have hs0 : a0.tmps.size = fn.ntmps := by rw [← ha0]; simp; omega
  clear ha0
  have fin : ∀ a1 : Act, a1.tmps.size = fn.ntmps → a1.defers = [] → getT a1 0 = .pointer (some ⟨b, o, none⟩) → getT a1 1 = .slice none 0 0 → getT a1 5 = .int .i16 ver →
      (seqs (flexPart I t flex ++ ((aFs I (ctxOf flex) S 0 (v0Of flex) (t1Of t flex) 0 fs ++ aTagsL I (ctxOf flex) S 0 tags (t1Of t flex + aFT (ctxOf flex) fs)) ++
        [.reg [mv (t1Of t flex + aFT (ctxOf flex) fs + tagsT tags) 1, asg 4 (t1Of t flex + aFT (ctxOf flex) fs + tagsT tags)], .ret]))).wp P Q a1 w := by
    intro a1 hs1 hd1 h10 h11 h15
    cases flex with
    | none =>
      simp only [v0Of, t1Of, ctxOf, flexAt, flexPart, List.nil_append] at *
      let X : Fix := ⟨P, I, tU8, G, ⟨5, 5, true⟩, w, w.heap.size, ver, false, t, fn.ntmps⟩
      have hX : X.ok := ⟨hka, (by omega : (5 : Nat) ≠ 1), (by omega : (5 : Nat) ≠ 1), (by omega : 5 < t), (by omega : 5 < t), (by omega : 1 < t), fun _ => rfl, Nat.le_refl _, hv0⟩
      exact top_mid (X := X) hX h1 (by show t ≤ t + 5; omega) h2 (by show 5 < 6; omega) (by show 5 < 6; omega) (by omega) hbB h5 h6 hH hT
        ⟨hs1, hd1, h15, (by intro h; cases h), (by rw [h11]; exact hown0), Below.refl _ _, Nat.le_refl _⟩ h10 hlim hQ
    | some n =>
      simp only [v0Of, t1Of, ctxOf, flexAt, flexPart] at *
      rw [List.cons_append, seqs_cons (by simp)]
      refine SC.wp_seq (SC.wp_reg (ops_mv (opsw_none rfl (opw_cmp (op := .geq) (k := .i16) (m := ver) (n := n) (r := decide (n ≤ ver)) ?_ rfl (by simp) (ops_asg (ops_nil ?_))))))
      · rw [eval_tmp, getT_put (by omega)]
        exact h15
      rw [List.cons_append, List.nil_append, seqs_cons (by simp)]
      refine SC.wp_seq (SC.wp_reg (ops_mv (ops_nil ?_)))
      let X : Fix := ⟨P, I, tU8, G, ⟨5, 6, false⟩, w, w.heap.size, ver, decide (n ≤ ver), t, fn.ntmps⟩
      have hX : X.ok := ⟨hka, (by omega : (5 : Nat) ≠ 1), (by omega : (6 : Nat) ≠ 1), (by omega : 5 < t), (by omega : 6 < t), (by omega : 1 < t), (fun h => by cases h), Nat.le_refl _, hv0⟩
      refine top_mid (X := X) hX h1 (by show t ≤ t + 8; omega) h2 (by show 5 < 7; omega) (by show 6 < 7; omega) (by omega) hbB h5 h6 hH hT
        ⟨?_, ?_, ?_, ?_, ?_, Below.refl _ _, Nat.le_refl _⟩ ?_ hlim hQ
      · simp [size_put, hs1]; rfl
      · simp [defers_put, hd1]
      · show getT _ 5 = _
        simp (disch := omega) [getT_put_ne]
        exact h15
      · intro _
        show getT _ 6 = _
        simp (disch := first | omega | (simp only [size_put]; omega)) [getT_put, getT_put_ne]
        rfl
      · simp (disch := omega) [getT_put_ne]
        rw [h11]; exact hown0
      · simp (disch := omega) [getT_put_ne]
        exact h10
  obtain ⟨rest, hrest⟩ : ∃ rest, rest = (flexPart I t flex ++ ((aFs I (ctxOf flex) S 0 (v0Of flex) (t1Of t flex) 0 fs ++ aTagsL I (ctxOf flex) S 0 tags (t1Of t flex + aFT (ctxOf flex) fs)) ++
        [.reg [mv (t1Of t flex + aFT (ctxOf flex) fs + tagsT tags) 1, asg 4 (t1Of t flex + aFT (ctxOf flex) fs + tagsT tags)], .ret])) := ⟨_, rfl⟩
  have htop : aTop I S t flex tags fs = seqs (.reg [⟨some 4, .assign (.const (.slice none 0 0)), none⟩] :: aLoad S 0 0 I.tI16 5 t :: .reg [mv (t + 4) 5] :: rest) := by rw [hrest]; rfl
  have hne : rest ≠ [] := by rw [hrest]; simp
  rw [← hrest] at fin
  clear hrest
  rw [htop, seqs_cons (by simp)]
  refine SC.wp_seq (SC.wp_reg (opsw_none rfl (opw_assign (ops_nil ?_))))
  rw [eval_const, seqs_cons (by simp)]
  refine SC.wp_seq (SC.wp_reg (ops_mv (ops_nilc (ad := ⟨b, o, none⟩) ?_ (ops_fa h3 (b := b) (o := o) (by rw [getT_put (by simp only [size_put]; omega)]) ?_))))
  · rw [getT_put (by simp only [size_put]; omega), getT_put_ne (by omega)]
    exact h00
  refine ops_ld h4 (ad := ⟨b, o + 0, none⟩) (v := .int .i16 ver) (by rw [getT_put (by simp only [size_put]; omega)]) (by rw [Nat.add_zero]; exact hver) (ops_asg (ops_nil ?_))
  rw [seqs_cons hne]
  refine SC.wp_seq (SC.wp_reg (ops_mv (ops_nil ?_)))
  refine fin _ (by simp [size_put, hs0]) (by simp [defers_put, hd0]) ?_ ?_ ?_
  · simp (disch := omega) [getT_put_ne, h00]
  · simp (disch := omega) [getT_put_ne, h01]
  · simp (disch := first | omega | (simp only [size_put]; omega)) [getT_put, getT_put_ne]

end Go.Proofs.Ytioodpjcpadkoaa.K
