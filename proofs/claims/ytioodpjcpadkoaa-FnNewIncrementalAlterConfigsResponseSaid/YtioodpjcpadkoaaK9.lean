/- A message's AppendTo writes what the schema says: fields, elements and parts, by induction on the schema; and the whole call. No condition. -/
import Derived.Test.YtioodpjcpadkoaaK8
namespace Go.Proofs.Ytioodpjcpadkoaa.K
open Go Go.RowKit Go.Proofs.Ytioodpjcpadkoaa.T
section
variable {X : Fix}

theorem enum_fixed (n : Int) : fixed (IntKind.i8.wrap n) 1 = fixed n 1 := by
  have : (IntKind.i8.wrap n) % 256 = n % 256 := by
    simp only [IntKind.wrap, IntKind.bits, IntKind.signed, Bool.true_and]
    split <;> omega
  simp [fixed, T.byteOf, this]

theorem stable_two {x y lo t : Nat} {v u : Value} (hx : x < lo) (hx1 : x ≠ 1) (hy : y < lo ∨ (X.T0 ≤ y ∧ y < t)) (hy1 : y ≠ 1) : ∀ a a', Same X a a' lo t → (getT a x = v ∧ getT a y = u) → (getT a' x = v ∧ getT a' y = u) :=
  fun _ _ hs h => ⟨(hs x hx1 (.inl hx)).trans h.1, (hs y hy1 hy).trans h.2⟩

theorem getElem?_map_flatten {α : Type} (l : List α) (f : α → Bytes) : (l.map f).flatten = l.flatMap f := by simp [List.flatMap]

theorem AFragP.keep {x : SC} {pre post : Act → Prop} {lo t : Nat} {o : Bytes} (h : AFragP X x pre post lo t o) (hst : ∀ a a', Same X a a' lo t → pre a → pre a') : AFragP X x pre (fun a => pre a ∧ post a) lo t o :=
  fun a w xs Q hi hp hlen hQ => h a w xs Q hi hp hlen fun a' w' h1 h2 h3 => hQ a' w' h1 h2 ⟨hst _ _ h2 hp, h3⟩

theorem seqs_cons {x : SC} {l : List SC} (hl : l ≠ []) : seqs (x :: l) = .seq x (seqs l) := by
  cases l with
  | nil => exact absurd rfl hl
  | cons y r => rfl

theorem aElem_ne (I : Ids) (c : Ctx) (T E s i v t b : Nat) (ty : Ty) : aElem I c T E s i v t b ty ≠ [] := by
  cases ty <;> simp [aElem]
  split <;> simp

def TagsAt (G : List (Nat × Bytes) → Prop) (w : World) (F : Nat → Prop) (flex : Bool) (b o : Nat) (tags : Option (Nat × Nat)) (u : List (Nat × Bytes)) : Prop :=
  match tags with | none => u = [] | some (_, off) => flex = true → HTags G w F b (o + off) u

theorem aTagsL_ok {S p t b o lo : Nat} {tags : Option (Nat × Nat)} {u : List (Nat × Bytes)} (hX : X.ok) (hlo : lo ≤ X.T0) (hlv : X.c.ver < lo) (hlf : X.c.flex < lo) (hp : p < lo) (hp1 : p ≠ 1) (ht : X.T0 ≤ t) (htN : t + tagsT tags ≤ X.N) (hb : b < X.B)
    (hok : okTags X.P X.I X.c S tags = true) (hu : TagsAt X.G X.w0 (· < X.B) X.flex b o tags u) :
    AList X (fun a => getT a p = .pointer (some ⟨b, o, none⟩)) lo t (aTagsL X.I X.c S p tags t) (wTags X.flex u) := by
  cases tags with
  | none =>
    have hf := hX.never hok
    have e : wTags X.flex u = [] := by simp [wTags, hf]
    rw [e]
    exact .nil
  | some x =>
    obtain ⟨f, off⟩ := x
    simp only [tagsT, Option.isSome_some, if_true, aTagsT] at htN
    have h := aTags_ok (X := X) (S := S) (p := p) (f := f) (off := off) (t := t) (b := b) (o := o) (lo := lo) (u := u) hX hlo hlv hlf hp hp1 ht (by omega) hb hok hu
    have := AList.cons h (AList.nil (X := X) (pre := fun a => getT a p = .pointer (some ⟨b, o, none⟩)) (lo := lo) (t := t))
    simpa [aTagsL] using this

mutual
theorem aVal_ok (hX : X.ok) : ∀ (ty : Ty) (S p : Nat) (h : Hd) (v t bk b o : Nat) (tr : Tree), okVal X.P X.I X.c X.tU8 h ty = true → fieldB X.P S h.idx h.off = true → (h.null < 0 ∨ h.null ≤ X.ver) →
    HTy X.G X.w0 (· < X.B) X.ver X.flex ty (decide (0 ≤ h.null)) b (o + h.off) tr → b < X.B → p < v → p ≠ 1 → X.c.ver < v → X.c.flex < v → 2 ≤ v → v + nV ty + (if h.enum then 1 else 0) ≤ X.T0 → X.T0 ≤ t → t + aVT X.c h ty ≤ X.N →
    AFrag X (aVal X.I X.c S p h v t bk ty) (fun a => getT a p = .pointer (some ⟨b, o, none⟩)) v t (wField X.ver X.flex h ty tr)
  | .prim k, S, p, h, v, t, bk, b, o, tr, hok, hS, hnull, hH, hb, hp, hp1, hlv, hlf, hv2, hvT, ht, htN => by
    have hnul : h.isNull X.ver tr = (decide (0 ≤ h.null) && tr.null) := by
      rcases hnull with e | e
      · simp [Hd.isNull, show ¬ (0 ≤ h.null) by omega]
      · simp [Hd.isNull, e, Bool.and_comm]
    have hwf : wField X.ver X.flex h (.prim k) tr = wPrim X.flex (decide (0 ≤ h.null) && tr.null) tr k := by simp only [wField, wTy, hnul]
    rw [hwf]
    simp only [nV] at hvT
    simp only [aVT] at htN
    simp only [HTy, HPrim] at hH
    unfold okVal at hok
    by_cases hk : k = .uuid
    · subst hk
      rw [if_pos rfl] at hok hH
      simp only [Bool.and_eq_true, decide_eq_true_eq, Bool.not_eq_true', bne_iff_ne, ne_eq] at hok
      obtain ⟨⟨⟨hn, he⟩, hT⟩, hU⟩ := hok
      simp only [aAppT, PK.parted, Bool.false_eq_true, if_false] at htN
      have := aUuid_ok (X := X) (S := S) (p := p) (v := v) (t := t) (b := b) (o := o) (lo := v) (h := h) (tr := tr) hX (Nat.le_refl _) hlv hlf (by omega) (by omega) ht (by omega) hS hT hU hb hH
      have e2 : wPrim X.flex (decide (0 ≤ h.null) && tr.null) tr .uuid = uuidOf tr := by simp [wPrim, uuidOf]
      rw [e2]
      simpa only [aVal, if_true] using this
    · rw [if_neg hk] at hok hH
      obtain ⟨u, hc, hpv⟩ := hH
      simp only [Bool.and_eq_true, Bool.or_eq_true, Bool.not_eq_true', decide_eq_true_eq] at hok
      obtain ⟨⟨hT, hen⟩, happ⟩ := hok
      have hload := aLoad_ok (X := X) (S := S) (p := p) (f := h.idx) (T := h.typ) (v := v) (t := t) (off := h.off) (b := b) (o := o) (u := u) (lo := v) hX (Nat.le_refl _) hlv hlf (by omega) (by omega) ht (by omega) hS hT hb hc
      unfold aVal
      rw [if_neg hk]
      by_cases he : h.enum = true
      · rw [if_pos he] at hvT htN ⊢
        rcases hen with hen | hk8
        · rw [hen] at he; cases he
        · subst hk8
          obtain rfl := hpv
          have hap := aApp_ok (X := X) (nul := decide (0 ≤ h.null)) (k := .i8) (x := v + 1) (t := t + 5) (lo := v + 2) (tr := tr) (v := .int .i8 tr.n) hX happ rfl (by omega) (by omega) (by omega) (by omega) (by omega) (by omega) (by simp only [aAppT, PK.parted, Bool.false_eq_true, if_false] at htN ⊢; omega)
          have hmid : AFragP X (.reg [mv (t + 4) v, asg (v + 1) (t + 4)]) (fun a => getT a v = .int .i8 tr.n) (fun a => getT a (v + 1) = .int .i8 tr.n) (v + 1) (t + 4) [] := by
            refine AFragP.quiet hX (by omega) (by omega) ?_
            intro a w xs K hi hpre hK
            have hsz := hi.size
            refine ops_mv (ops_asg (ops_nil ?_))
            refine hK _ (by simp [size_put]) (by simp [defers_put]) ?_ ?_ ?_
            · intro s hs1 hs2
              simp (disch := omega) [getT_put_ne]
            · simp (disch := omega) [getT_put_ne]
            · simp (disch := first | omega | (simp only [size_put]; omega)) [getT_put, hpre]
          have h2 := hmid.seq hap (fun a a' _ _ hq => hq) (by omega) (by omega)
          have h3 := hload.seq h2 (fun a a' _ _ hq => hq) (by omega) (by omega)
          exact h3
      · rw [if_neg he] at hvT htN ⊢
        have hap := aApp_ok (X := X) (nul := decide (0 ≤ h.null)) (k := k) (x := v) (t := t + 4) (lo := v + 1) (tr := tr) (v := u) hX happ hpv (by omega) (by omega) (by omega) (by omega) (by omega) (by omega) (by omega)
        exact hload.seq hap (fun a a' _ _ hq => hq) (by omega) (by omega)
  | .list T E size of, S, p, h, v, t, bk, b, o, tr, hok, hS, hnull, hH, hb, hp, hp1, hlv, hlf, hv2, hvT, ht, htN => by
    have hnul : h.isNull X.ver tr = (decide (0 ≤ h.null) && tr.null) := by
      rcases hnull with e | e
      · simp [Hd.isNull, show ¬ (0 ≤ h.null) by omega]
      · simp [Hd.isNull, e, Bool.and_comm]
    have hwf : wField X.ver X.flex h (.list T E size of) tr = wTy X.ver X.flex (.list T E size of) (decide (0 ≤ h.null) && tr.null) tr := by simp only [wField, hnul]
    rw [hwf]
    simp only [nV] at hvT
    simp only [aVT] at htN
    unfold okVal at hok
    simp only [Bool.and_eq_true, Bool.not_eq_true', beq_iff_eq] at hok
    obtain ⟨⟨⟨⟨⟨he, hTT⟩, hT1⟩, hsl⟩, hlen⟩, hel⟩ := hok
    rw [if_neg (by simp [he])] at hvT
    simp only [HTy] at hH
    obtain ⟨base, cap, hc, hH⟩ := hH
    have hload := aLoad_ok (X := X) (S := S) (p := p) (f := h.idx) (T := h.typ) (v := v) (t := t) (off := h.off) (b := b) (o := o) (lo := v) hX (Nat.le_refl _) hlv hlf (by omega) (by omega) ht (by omega) hS (by rw [hTT]; exact hT1) hb hc
    unfold aVal
    generalize hnl : (decide (0 ≤ h.null) && tr.null) = nl at hc hH hload ⊢
    have hisn : (decide (0 ≤ h.null) && base.isNone) = nl ∧ (if nl = true then 0 else tr.l.length) ≤ most := by
      cases nl with
      | true =>
        simp only [if_true] at hH ⊢
        simp only [Bool.and_eq_true] at hnl
        exact ⟨by simp [hH]; simpa using hnl.1, Nat.zero_le _⟩
      | false =>
        simp only [Bool.false_eq_true, if_false] at hH ⊢
        refine ⟨?_, hH.1⟩
        by_cases hz : decide (0 ≤ h.null) = true
        · have := hH.2.1 hz
          cases base <;> simp_all
        · simp only [Bool.not_eq_true] at hz
          rw [hz]; rfl
    have hlenOk := aLen_ok (X := X) (nul := decide (0 ≤ h.null)) (T := T) (E := E) (n := size) (v := v) (t := t + 4) (lo := v + 1) (cnt := if nl = true then 0 else tr.l.length) (cap := cap) (base := base) hX (by omega) (by omega) (by omega) (by omega) (by omega) (by omega) (by omega) hsl hlen hisn.2
    rw [hisn.1] at hlenOk
    have hlen2 : AFragP X (aLen X.I X.c (decide (0 ≤ h.null)) T v (t + 4)) (fun a => getT a v = .slice base (if nl = true then 0 else tr.l.length) cap) (fun a => getT a v = .slice base (if nl = true then 0 else tr.l.length) cap) v (t + 4) (counted X.flex nl (if nl = true then 0 else tr.l.length) 4) :=
      (hlenOk.keep (stable_slot (by omega) (by omega))).mono (fun _ h => h) (fun _ h => h.1) (by omega) (Nat.le_refl _)
    have hloop : AFrag X (aLoop T v (t + 4 + aLenT X.c (decide (0 ≤ h.null))) bk (aET X.c of) (aElem X.I X.c T E v (v + 1) (v + 2) (t + 4 + aLenT X.c (decide (0 ≤ h.null)) + 5) (bk + 2) of) X.I.tInt)
        (fun a => getT a v = .slice base (if nl = true then 0 else tr.l.length) cap) v (t + 4 + aLenT X.c (decide (0 ≤ h.null))) ((if nl = true then [] else tr.l).flatMap (fun x => wTy X.ver X.flex of false x)) := by
      have hnV : 1 ≤ nV of := by cases of <;> simp [nV] <;> omega
      rw [← getElem?_map_flatten]
      have hcnt : (if nl = true then 0 else tr.l.length) = ((if nl = true then [] else tr.l).map (fun x => wTy X.ver X.flex of false x)).length := by split <;> simp
      rw [hcnt]
      refine aLoop_ok (X := X) (lo := v) hX (Nat.le_refl _) (by omega) (by omega) hlv hlf (by omega) (by omega) hsl (by rw [← hcnt]; exact hisn.2) ?_
      intro i out hout
      rw [← hcnt]
      simp only [List.getElem?_map, Option.map_eq_some_iff] at hout
      obtain ⟨x, hx, rfl⟩ := hout
      cases nl with
      | true => simp at hx
      | false =>
        simp only [Bool.false_eq_true, if_false] at hx hH ⊢
        obtain ⟨-, -, hH⟩ := hH
        have hlt : i < tr.l.length := (List.getElem?_eq_some_iff.1 hx).1
        rcases hH with ⟨rfl, hnil⟩ | ⟨b', o', rfl, hF, hels⟩
        · rw [hnil] at hlt
          exact absurd hlt (Nat.not_lt_zero _)
        · have hE := aElem_ok hX of T E size v (v + 1) (v + 2) (t + 4 + aLenT X.c (decide (0 ≤ h.null)) + 5) (bk + 2) b' o' cap tr.l.length i x hel hsl (hels i x hx) hF hlt (by omega) (by omega) (by omega) (by omega) (by omega) (by omega) (by omega) (by omega) (by omega) (by omega)
          rw [seqs_cons (aElem_ne _ _ _ _ _ _ _ _ _ _)]
          have hreg : AFragP X (.reg [mv (t + 4 + aLenT X.c (decide (0 ≤ h.null)) + 4) (t + 4 + aLenT X.c (decide (0 ≤ h.null)) + 2), asg (v + 1) (t + 4 + aLenT X.c (decide (0 ≤ h.null)) + 4)])
              (fun a => getT a v = .slice (some ⟨b', o', none⟩) tr.l.length cap ∧ getT a (t + 4 + aLenT X.c (decide (0 ≤ h.null)) + 2) = .int .i64 (i : Int))
              (fun a => getT a v = .slice (some ⟨b', o', none⟩) tr.l.length cap ∧ getT a (v + 1) = .int .i64 (i : Int)) (v + 1) (t + 4 + aLenT X.c (decide (0 ≤ h.null)) + 4) [] := by
            refine AFragP.quiet hX (by omega) (by omega) ?_
            intro a w xs K hi hpre hK
            have hsz := hi.size
            refine ops_mv (ops_asg (ops_nil ?_))
            refine hK _ (by simp [size_put]) (by simp [defers_put]) ?_ ?_ ⟨?_, ?_⟩
            · intro s hs1 hs2
              simp (disch := omega) [getT_put_ne]
            · simp (disch := omega) [getT_put_ne]
            · simp (disch := omega) [getT_put_ne]
              exact hpre.1
            · simp (disch := first | omega | (simp only [size_put]; omega)) [getT_put]
              exact hpre.2
          exact hreg.seq hE (fun a a' _ _ hq => hq) (by omega) (by omega)
    have hout : wTy X.ver X.flex (.list T E size of) nl tr = counted X.flex nl (if nl = true then 0 else tr.l.length) 4 ++ (if nl = true then [] else tr.l).flatMap (fun x => wTy X.ver X.flex of false x) := by
      simp only [wTy]
      cases nl with
      | true => simp
      | false =>
        simp only [Bool.false_eq_true, if_false] at hH ⊢
        rw [List.take_of_length_le hH.1]
    rw [hout]
    have h2 := hlen2.seq hloop (fun a a' _ _ hq => hq) (Nat.le_refl _) (by omega)
    exact hload.seq h2 (fun a a' _ _ hq => hq) (Nat.le_refl _) (by omega)
  | .struct S' sz df tags fs, S, p, h, v, t, bk, b, o, tr, hok, hS, hnull, hH, hb, hp, hp1, hlv, hlf, hv2, hvT, ht, htN => by
    have hnul : h.isNull X.ver tr = (decide (0 ≤ h.null) && tr.null) := by
      rcases hnull with e | e
      · simp [Hd.isNull, show ¬ (0 ≤ h.null) by omega]
      · simp [Hd.isNull, e, Bool.and_comm]
    simp only [nV] at hvT
    simp only [aVT] at htN
    unfold okVal at hok
    simp only [Bool.and_eq_true, Bool.not_eq_true', Bool.or_eq_true, decide_eq_true_eq] at hok
    obtain ⟨⟨⟨he, hn⟩, htag⟩, hfs⟩ := hok
    rw [if_neg (by simp [he])] at hvT
    unfold aVal
    simp only [HTy] at hH
    by_cases hz : 0 ≤ h.null
    · rw [if_pos hz] at htN ⊢
      rw [if_pos (by simpa using hz)] at hH
      rcases hn with hn | ⟨⟨hT1, hpt⟩, hu8⟩
      · omega
      have hwf : wField X.ver X.flex h (.struct S' sz df tags fs) tr = if tr.null then [255] else [1] ++ (wFs X.ver X.flex fs tr.l ++ wTags X.flex tr.u) := by
        have hd : h.isNull X.ver tr = tr.null := by rw [hnul]; simp [hz]
        simp only [wField, hz, if_true, hd, wTy, List.cons_append, List.nil_append]
      rw [hwf]
      by_cases hnl : tr.null = true
      · rw [if_pos hnl] at hH ⊢
        have hload := aLoad_ok (X := X) (S := S) (p := p) (f := h.idx) (T := h.typ) (v := v) (t := t) (off := h.off) (b := b) (o := o) (lo := v) hX (Nat.le_refl _) hlv hlf (by omega) (by omega) ht (by omega) hS hT1 hb hH
        have hby := aByte_ok (X := X) (n := 255) (t := t + 6) (lo := v) (u := 255) hX rfl (by omega) hlv hlf (by omega) (by omega) hu8
        have hrest : AFrag X (.seq (.reg [mv (t + 4) v, bin .eql (t + 5) h.typ (t + 4) (.const (.pointer none))])
            (.cond (.tmp (t + 5)) (aByte X.I 255 (t + 6)) (seqs (aByte X.I 1 (t + 9) :: (aFs X.I X.c S' v (v + 1) (t + 12) bk fs ++ aTagsL X.I X.c S' v tags (t + 12 + aFT X.c fs))))))
            (fun a => getT a v = .pointer none) v (t + 4) [255] := by
          intro a w xs Q hi hp hlen hQ
          have hsz := hi.size
          have h1 := hX.oneT
          refine SC.wp_seq (SC.wp_reg (ops_mv (opsw_none rfl (opw_eqlnil_ptr hpt (q := none) (by rw [eval_tmp, getT_put (by omega)]; exact hp) (ops_nil ?_)))))
          refine SC.wp_cond (t := true) (by simp (disch := first | omega | (simp only [size_put]; omega)) [eval_tmp, getT_put]) ?_
          rw [if_pos rfl]
          have hS2 : Same X a ((a.put (some (t + 4)) (getT a v)).put (some (t + 5)) (.bool (Option.isNone (none : Option Addr)))) v (t + 4) := by
            intro s hs1 hs2
            simp (disch := omega) [getT_put_ne]
          refine hby _ w xs _ ?_ trivial hlen fun a' w' h1 h2 h3 => hQ a' w' h1 (hS2.trans h2 (Nat.le_refl _) (by omega)) h3
          refine hi.step hX (by simp [size_put]) (by simp [defers_put]) hS2 hlv hlf ?_ (Below.refl _ _) hi.heap
          simp (disch := omega) [getT_put_ne]
          exact hi.own
        exact hload.seq hrest (fun a a' _ _ hq => hq) (Nat.le_refl _) (by omega)
      · rw [if_neg hnl] at hH ⊢
        obtain ⟨b', o', hc, hF, hHf, hHt⟩ := hH
        have hload := aLoad_ok (X := X) (S := S) (p := p) (f := h.idx) (T := h.typ) (v := v) (t := t) (off := h.off) (b := b) (o := o) (lo := v) hX (Nat.le_refl _) hlv hlf (by omega) (by omega) ht (by omega) hS hT1 hb hc
        have hby := (aByte_ok (X := X) (n := 1) (t := t + 9) (lo := v + 1) (u := 1) hX rfl (by omega) (by omega) (by omega) (by omega) (by omega) hu8).mono (pre' := fun a => getT a v = .pointer (some ⟨b', o', none⟩)) (fun _ _ => trivial) (fun _ h => h) (Nat.le_refl _) (Nat.le_refl _)
        have hA := aFs_ok hX fs S' v (v + 1) (t + 12) bk b' o' tr.l hfs hHf hF (by omega) (by omega) (by omega) (by omega) (by omega) (by omega) (by omega) (by omega)
        have hTg := aTagsL_ok (X := X) (S := S') (p := v) (t := t + 12 + aFT X.c fs) (b := b') (o := o') (lo := v + 1) (u := tr.u) hX (by omega) (by omega) (by omega) (by omega) (by omega) (by omega) (by omega) hF htag hHt
        have hL := ((AList.cons hby ((hA.append (hTg.mono (Nat.le_refl _) (by omega))).mono (Nat.le_refl _) (by omega))).frag (stable_slot (by omega) (by omega)))
        have hrest : AFrag X (.seq (.reg [mv (t + 4) v, bin .eql (t + 5) h.typ (t + 4) (.const (.pointer none))])
            (.cond (.tmp (t + 5)) (aByte X.I 255 (t + 6)) (seqs (aByte X.I 1 (t + 9) :: (aFs X.I X.c S' v (v + 1) (t + 12) bk fs ++ aTagsL X.I X.c S' v tags (t + 12 + aFT X.c fs))))))
            (fun a => getT a v = .pointer (some ⟨b', o', none⟩)) v (t + 4) ([1] ++ (wFs X.ver X.flex fs tr.l ++ wTags X.flex tr.u)) := by
          intro a w xs Q hi hp hlen hQ
          have hsz := hi.size
          have h1 := hX.oneT
          refine SC.wp_seq (SC.wp_reg (ops_mv (opsw_none rfl (opw_eqlnil_ptr hpt (q := some ⟨b', o', none⟩) (by rw [eval_tmp, getT_put (by omega)]; exact hp) (ops_nil ?_)))))
          refine SC.wp_cond (t := false) (by simp (disch := first | omega | (simp only [size_put]; omega)) [eval_tmp, getT_put]) ?_
          rw [if_neg (by simp)]
          have hS2 : Same X a ((a.put (some (t + 4)) (getT a v)).put (some (t + 5)) (.bool (Option.isNone (some (⟨b', o', none⟩ : Addr))))) (v + 1) (t + 4) := by
            intro s hs1 hs2
            simp (disch := omega) [getT_put_ne]
          refine hL _ w xs _ ?_ ((hS2 v (by omega) (by omega)).trans hp) hlen fun a' w' h1 h2 h3 => hQ a' w' h1 ((hS2.trans h2 (Nat.le_refl _) (by omega)).mono (by omega) (Nat.le_refl _)) h3
          refine hi.step hX (by simp [size_put]) (by simp [defers_put]) hS2 (by omega) (by omega) ?_ (Below.refl _ _) hi.heap
          simp (disch := omega) [getT_put_ne]
          exact hi.own
        exact hload.seq hrest (fun a a' _ _ hq => hq) (Nat.le_refl _) (by omega)
    · rw [if_neg hz] at htN ⊢
      rw [if_neg (by simpa using hz)] at hH
      obtain ⟨hHf, hHt⟩ := hH
      have hwf : wField X.ver X.flex h (.struct S' sz df tags fs) tr = [] ++ (wFs X.ver X.flex fs tr.l ++ wTags X.flex tr.u) := by
        simp only [wField, hz, if_false, wTy, List.nil_append]
      rw [hwf]
      have hA := aFs_ok hX fs S' v (v + 1) (t + 3) bk b (o + h.off) tr.l hfs hHf hb (by omega) (by omega) (by omega) (by omega) (by omega) (by omega) (by omega) (by omega)
      have hTg := aTagsL_ok (X := X) (S := S') (p := v) (t := t + 3 + aFT X.c fs) (b := b) (o := o + h.off) (lo := v + 1) (u := tr.u) hX (by omega) (by omega) (by omega) (by omega) (by omega) (by omega) (by omega) hb htag hHt
      have hreg : AFragP X (.reg [mv t p, nilc (t + 1) t, fa (t + 2) S (t + 1) h.idx, asg v (t + 2)]) (fun a => getT a p = .pointer (some ⟨b, o, none⟩)) (fun a => getT a v = .pointer (some ⟨b, o + h.off, none⟩)) v t [] := by
        refine AFragP.quiet hX hlv hlf ?_
        intro a w xs K hi hpre hK
        have hsz := hi.size
        refine ops_mv (ops_nilc (ad := ⟨b, o, none⟩) (by rw [getT_put (by omega)]; exact hpre) (ops_fa hS (b := b) (o := o) (by rw [getT_put (by simp only [size_put]; omega)]) (ops_asg (ops_nil ?_))))
        refine hK _ (by simp [size_put]) (by simp [defers_put]) ?_ ?_ ?_
        · intro s hs1 hs2
          simp (disch := omega) [getT_put_ne]
        · simp (disch := omega) [getT_put_ne]
        · simp (disch := first | omega | (simp only [size_put]; omega)) [getT_put]
      exact AList.behind hreg (hA.append (hTg.mono (Nat.le_refl _) (by omega))) (stable_slot (by omega) (by omega)) (fun a a' _ _ hq => hq) (by omega) (by omega)
theorem aElem_ok (hX : X.ok) : ∀ (ty : Ty) (T E size s i v t bk b o cap cnt idx : Nat) (tr : Tree), okElem X.P X.I X.c X.tU8 E size ty = true → sliceB X.P T E size = true →
    HTy X.G X.w0 (· < X.B) X.ver X.flex ty false b (o + idx * size) tr → b < X.B → idx < cnt → s < v → i < v → s ≠ 1 → i ≠ 1 → X.c.ver < v → X.c.flex < v → 2 ≤ v → v + nV ty ≤ X.T0 → X.T0 ≤ t → t + aET X.c ty ≤ X.N →
    AFrag X (seqs (aElem X.I X.c T E s i v t bk ty)) (fun a => getT a s = .slice (some ⟨b, o, none⟩) cnt cap ∧ getT a i = .int .i64 (idx : Int)) v t (wTy X.ver X.flex ty false tr)
  | .prim k, T, E, size, s, i, v, t, bk, b, o, cap, cnt, idx, tr, hok, hsl, hH, hb, hidx, hsv, hiv, hs1, hi1, hlv, hlf, hv2, hvT, ht, htN => by
    unfold okElem at hok
    simp only [Bool.and_eq_true, bne_iff_ne, ne_eq, beq_iff_eq] at hok
    obtain ⟨⟨⟨hk, hsz1⟩, hT1⟩, happ⟩ := hok
    subst hsz1
    simp only [HTy, HPrim, if_neg hk] at hH
    obtain ⟨u, hc, hpv⟩ := hH
    simp only [nV] at hvT
    simp only [aET] at htN
    simp only [aElem, if_neg hk, seqs, wTy]
    have hreg : AFragP X (.reg [mv t s, mv (t + 1) i, ⟨some (t + 2), .indexAddr T (.tmp t) (.tmp (t + 1)), none⟩, ld (t + 3) E (t + 2), asg v (t + 3)]) (fun a => getT a s = .slice (some ⟨b, o, none⟩) cnt cap ∧ getT a i = .int .i64 (idx : Int)) (fun a => getT a v = u) v t [] := by
      refine AFragP.quiet hX hlv hlf ?_
      intro a w xs K hi hpre hK
      have hsz := hi.size
      refine ops_mv (ops_mv (opsw_none rfl (opw_index hsl (b := b) (o := o) (len := cnt) (cap := cap) (j := idx) (k := .i64) ?_ ?_ hidx (ops_ld hT1 (ad := ⟨b, o + idx * 1, none⟩) (v := u) ?_ ?_ (ops_asg (ops_nil ?_))))))
      · simp (disch := first | omega | (simp only [size_put]; omega)) [eval_tmp, getT_put, getT_put_ne]
        exact hpre.1
      · simp (disch := first | omega | (simp only [size_put]; omega)) [eval_tmp, getT_put, getT_put_ne]
        exact hpre.2
      · rw [getT_put (by simp only [size_put]; omega)]
      · rw [hi.below.cell hb]
        exact hc
      refine hK _ (by simp [size_put]) (by simp [defers_put]) ?_ ?_ ?_
      · intro q hq1 hq2
        simp (disch := omega) [getT_put_ne]
      · simp (disch := omega) [getT_put_ne]
      · simp (disch := first | omega | (simp only [size_put]; omega)) [getT_put]
    have hap := aApp_ok (X := X) (nul := false) (k := k) (x := v) (t := t + 4) (lo := v + 1) (tr := tr) (v := u) hX happ hpv (by omega) (by omega) (by omega) (by omega) (by omega) (by omega) (by omega)
    exact hreg.seq hap (fun a a' _ _ hq => hq) (by omega) (by omega)
  | .list _ _ _ _, T, E, size, s, i, v, t, bk, b, o, cap, cnt, idx, tr, hok, hsl, hH, hb, hidx, hsv, hiv, hs1, hi1, hlv, hlf, hv2, hvT, ht, htN => by
    simp [okElem] at hok
  | .struct S sz df tags fs, T, E, size, s, i, v, t, bk, b, o, cap, cnt, idx, tr, hok, hsl, hH, hb, hidx, hsv, hiv, hs1, hi1, hlv, hlf, hv2, hvT, ht, htN => by
    unfold okElem at hok
    simp only [Bool.and_eq_true, beq_iff_eq] at hok
    obtain ⟨⟨⟨hSE, hsz1⟩, htag⟩, hfs⟩ := hok
    simp only [HTy, Bool.false_eq_true, if_false] at hH
    obtain ⟨hHf, hHt⟩ := hH
    simp only [nV] at hvT
    simp only [aET] at htN
    simp only [aElem, wTy]
    have hreg : AFragP X (.reg [mv t s, mv (t + 1) i, ⟨some (t + 2), .indexAddr T (.tmp t) (.tmp (t + 1)), none⟩, asg v (t + 2)]) (fun a => getT a s = .slice (some ⟨b, o, none⟩) cnt cap ∧ getT a i = .int .i64 (idx : Int)) (fun a => getT a v = .pointer (some ⟨b, o + idx * size, none⟩)) v t [] := by
      refine AFragP.quiet hX hlv hlf ?_
      intro a w xs K hi hpre hK
      have hsz := hi.size
      refine ops_mv (ops_mv (opsw_none rfl (opw_index hsl (b := b) (o := o) (len := cnt) (cap := cap) (j := idx) (k := .i64) ?_ ?_ hidx (ops_asg (ops_nil ?_)))))
      · simp (disch := first | omega | (simp only [size_put]; omega)) [eval_tmp, getT_put, getT_put_ne]
        exact hpre.1
      · simp (disch := first | omega | (simp only [size_put]; omega)) [eval_tmp, getT_put, getT_put_ne]
        exact hpre.2
      refine hK _ (by simp [size_put]) (by simp [defers_put]) ?_ ?_ ?_
      · intro q hq1 hq2
        simp (disch := omega) [getT_put_ne]
      · simp (disch := omega) [getT_put_ne]
      · simp (disch := first | omega | (simp only [size_put]; omega)) [getT_put]
    have hA := aFs_ok hX fs S v (v + 1) (t + 3) bk b (o + idx * size) tr.l hfs hHf hb (by omega) (by omega) (by omega) (by omega) (by omega) (by omega) (by omega) (by omega)
    have hTg := aTagsL_ok (X := X) (S := S) (p := v) (t := t + 3 + aFT X.c fs) (b := b) (o := o + idx * size) (lo := v + 1) (u := tr.u) hX (by omega) (by omega) (by omega) (by omega) (by omega) (by omega) (by omega) hb htag hHt
    have := AList.behind hreg (hA.append (hTg.mono (Nat.le_refl _) (by omega))) (stable_slot (by omega) (by omega)) (fun a a' _ _ hq => hq) (by omega) (by omega)
    simpa using this
theorem aFs_ok (hX : X.ok) : ∀ (fs : Fs) (S p v t bk b o : Nat) (ts : List Tree), okFs X.P X.I X.c X.tU8 S fs = true → HFs X.G X.w0 (· < X.B) X.ver X.flex fs b o ts → b < X.B → p < v → p ≠ 1 → X.c.ver < v → X.c.flex < v → 2 ≤ v →
    v + nVs fs ≤ X.T0 → X.T0 ≤ t → t + aFT X.c fs ≤ X.N → AList X (fun a => getT a p = .pointer (some ⟨b, o, none⟩)) v t (aFs X.I X.c S p v t bk fs) (wFs X.ver X.flex fs ts)
  | .nil, S, p, v, t, bk, b, o, ts, hok, hH, hb, hp, hp1, hlv, hlf, hv2, hvT, ht, htN => by
    simp only [aFs, wFs]
    exact .nil
  | .cons h ty r, S, p, v, t, bk, b, o, ts, hok, hH, hb, hp, hp1, hlv, hlf, hv2, hvT, ht, htN => by
    unfold okFs at hok
    simp only [Bool.and_eq_true, Bool.or_eq_true, decide_eq_true_eq] at hok
    obtain ⟨⟨⟨hS, hnull⟩, hval⟩, hrest⟩ := hok
    simp only [HFs] at hH
    simp only [nVs] at hvT
    simp only [aFT] at htN
    rw [wFs_cons]
    unfold aFs
    refine .cons ?_ ?_
    · refine vCond_ok hX (by omega) hlv hlf ht (by omega) (stable_slot hp hp1) (fun hh => ?_)
      have hfrom : h.from_ ≤ X.ver := by
        simp only [Hd.has, Bool.and_eq_true, decide_eq_true_eq] at hh
        exact hh.1
      exact (aVal_ok hX ty S p h v (t + vTmps h) bk b o (ts.headD Tree.zero) hval hS (hnull.imp id fun e => Int.le_trans e hfrom) (hH.1 hh) hb hp hp1 hlv hlf hv2 (by omega) (by omega) (by omega)).mono (fun _ h => h) (fun _ h => h) (Nat.le_refl _) (Nat.le_refl _)
    · exact (aFs_ok hX r S p (v + nV ty + (if h.enum then 1 else 0)) (t + vTmps h + aVT X.c h ty) (bk + nB ty) b o ts.tail hrest hH.2 hb (by omega) hp1 (by omega) (by omega) (by omega) (by omega) (by omega) (by omega)).mono (by omega) (by omega)
end
end
end Go.Proofs.Ytioodpjcpadkoaa.K
