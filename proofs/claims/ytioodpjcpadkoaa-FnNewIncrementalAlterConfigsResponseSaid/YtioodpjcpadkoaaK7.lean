/- A message's AppendTo writes what the schema says: a loop over a list. No condition. -/
import Derived.Test.YtioodpjcpadkoaaK6
namespace Go.Proofs.Ytioodpjcpadkoaa.K
open Go Go.RowKit Go.Proofs.Ytioodpjcpadkoaa.T
section
variable {X : Fix} {a : Act} {w : World} {xs : Bytes}

theorem flatten_take_succ {l : List Bytes} {i : Nat} {o : Bytes} (h : l[i]? = some o) : (l.take (i + 1)).flatten = (l.take i).flatten ++ o := by
  rw [List.take_add_one, h]
  simp

theorem flatten_take_le (l : List Bytes) (i : Nat) : (l.take i).flatten.length ≤ l.flatten.length := by
  have h : l.flatten = (l.take i).flatten ++ (l.drop i).flatten := by
    rw [← List.flatten_append, List.take_append_drop]
  rw [h]
  simp

theorem aLoop_ok {T E n s t b et lo cap : Nat} {body : List SC} {outs : List Bytes} {base : Option Addr} (hX : X.ok) (hlo : lo ≤ s) (hsT : s + 1 < X.T0) (hs0 : s ≠ 1 ∧ s ≠ 0) (hlv : X.c.ver < lo) (hlf : X.c.flex < lo) (ht : X.T0 ≤ t) (htN : t + 6 + et ≤ X.N)
    (hT : sliceB X.P T E n = true) (hcnt : outs.length ≤ most)
    (hbody : ∀ (i : Nat) (out : Bytes), outs[i]? = some out → AFrag X (seqs (.reg [mv (t + 4) (t + 2), asg (s + 1) (t + 4)] :: body)) (fun a => getT a s = .slice base outs.length cap ∧ getT a (t + 2) = .int .i64 (i : Int)) (s + 1) (t + 4) out) :
    AFrag X (aLoop T s t b et body X.I.tInt) (fun a => getT a s = .slice base outs.length cap) lo t outs.flatten := by
  intro a w xs Q hi hp hlen hQ
  have h1 := hX.oneT
  have hsz := hi.size
  have hlim : lim = 70368744177664 := rfl
  have hmost : most = 32767 := rfl
  unfold aLoop
  refine SC.wp_seq (SC.wp_reg (ops_mv (ops_len hT (base := base) (len := outs.length) (cap := cap) (by rw [getT_put (by omega)]; exact hp) (opsw_none rfl (opw_move (ops_nil ?_))))))
  rw [eval_const]
  refine SC.wp_block (SC.wp_loop
    (fun a1 w1 => ∃ i, i ≤ outs.length ∧ AInv X a1 w1 (xs ++ (outs.take i).flatten) ∧ Same X a a1 lo t ∧ getT a1 s = .slice base outs.length cap ∧ getT a1 (t + 1) = .int .i64 (outs.length : Int) ∧ getT a1 (t + 2) = .int .i64 (i : Int))
    (fun a1 _ => outs.length - (intOf (getT a1 (t + 2))).toNat) ?_ ?_)
  · refine ⟨0, Nat.zero_le _, ?_, ?_, ?_, ?_, ?_⟩
    · refine hi.step hX (lo := lo) (t := t) (by simp [size_put]) (by simp [defers_put]) ?_ hlv hlf ?_ (Below.refl _ _) hi.heap
      · intro q hq1 hq2
        simp (disch := omega) [getT_put_ne]
      · simp (disch := omega) [getT_put_ne]
        exact hi.own
    · intro q hq1 hq2
      simp (disch := omega) [getT_put_ne]
    · simp (disch := omega) [getT_put_ne]
      exact hp
    · simp (disch := first | omega | (simp only [size_put]; omega)) [getT_put, getT_put_ne]
    · simp (disch := first | omega | (simp only [size_put]; omega)) [getT_put]
  · rintro a1 w1 ⟨i, hile, hi1, hsame1, hs1, ht1, ht2⟩
    have hsz1 := hi1.size
    refine SC.wp_seq (SC.wp_reg (opsw_none rfl (opw_cmp (op := .lss) (k := .i64) (m := (i : Int)) (n := (outs.length : Int)) (r := decide (i < outs.length)) (by rw [eval_tmp]; exact ht2) (by rw [eval_tmp]; exact ht1) (by simp) (ops_nil ?_))))
    refine SC.wp_seq (SC.wp_cond (t := decide (i < outs.length)) (by rw [eval_tmp, getT_put (by omega)]) ?_)
    have hS2 : ∀ q, q ≠ t + 3 → getT (a1.put (some (t + 3)) (.bool (decide (i < outs.length)))) q = getT a1 q := fun q hq => getT_put_ne hq
    have hi2 : AInv X (a1.put (some (t + 3)) (.bool (decide (i < outs.length)))) w1 (xs ++ (outs.take i).flatten) := by
      refine hi1.step hX (lo := lo) (t := t) (by simp [size_put]) (by simp [defers_put]) ?_ hlv hlf ?_ (Below.refl _ _) hi1.heap
      · intro q hq1 hq2
        exact hS2 q (by omega)
      · rw [hS2 1 (by omega)]
        exact hi1.own
    by_cases hlt : i < outs.length
    · rw [if_pos (by simpa using hlt)]
      refine SC.wp_skip ?_
      obtain ⟨out, hout⟩ : ∃ out, outs[i]? = some out := ⟨outs[i], List.getElem?_eq_getElem hlt⟩
      have hle := flatten_take_le outs (i + 1)
      rw [flatten_take_succ hout, List.length_append] at hle
      refine SC.wp_seq (SC.wp_block (hbody i out hout _ w1 _ _ hi2 ⟨by rw [hS2 s (by omega)]; exact hs1, by rw [hS2 (t + 2) (by omega)]; exact ht2⟩ (by rw [List.length_append]; omega) ?_))
      intro a3 w3 hi3 hsame3 _
      have hsz3 := hi3.size
      have ht23 : getT a3 (t + 2) = .int .i64 (i : Int) := by rw [hsame3 (t + 2) (by omega) (by omega), hS2 (t + 2) (by omega)]; exact ht2
      refine SC.wp_reg (opsw_none rfl (opw_arith (op := .add) (k := .i64) (m := (i : Int)) (n := 1) (r := ((i + 1 : Nat) : Int)) (by rw [eval_tmp]; exact ht23) rfl (.inl ⟨rfl, ?_⟩) (ops_mv (ops_nil ?_))))
      · rw [IntWalk.i64_in _ (by omega)]
        simp
      have hS4 : ∀ q, q ≠ t + 5 + et → q ≠ t + 2 → getT ((a3.put (some (t + 5 + et)) (.int .i64 ((i + 1 : Nat) : Int))).put (some (t + 2)) (getT (a3.put (some (t + 5 + et)) (.int .i64 ((i + 1 : Nat) : Int))) (t + 5 + et))) q = getT a3 q := by
        intro q hq1 hq2
        simp (disch := omega) [getT_put_ne]
      have hv4 : getT ((a3.put (some (t + 5 + et)) (.int .i64 ((i + 1 : Nat) : Int))).put (some (t + 2)) (getT (a3.put (some (t + 5 + et)) (.int .i64 ((i + 1 : Nat) : Int))) (t + 5 + et))) (t + 2) = .int .i64 ((i + 1 : Nat) : Int) := by
        simp (disch := first | omega | (simp only [size_put]; omega)) [getT_put]
      refine ⟨⟨i + 1, hlt, ?_, ?_, ?_, ?_, hv4⟩, ?_⟩
      · rw [flatten_take_succ hout, ← List.append_assoc]
        refine hi3.step hX (lo := lo) (t := t) (by simp [size_put]) (by simp [defers_put]) ?_ hlv hlf ?_ (Below.refl _ _) hi3.heap
        · intro q hq1 hq2
          exact hS4 q (by omega) (by omega)
        · rw [hS4 1 (by omega) (by omega)]
          exact hi3.own
      · intro q hq1 hq2
        rw [hS4 q (by omega) (by omega), hsame3 q hq1 (by omega), hS2 q (by omega)]
        exact hsame1 q hq1 hq2
      · rw [hS4 s (by omega) (by omega), hsame3 s (by omega) (by omega), hS2 s (by omega)]
        exact hs1
      · rw [hS4 (t + 1) (by omega) (by omega), hsame3 (t + 1) (by omega) (by omega), hS2 (t + 1) (by omega)]
        exact ht1
      · rw [hv4, ht2]
        simp [intOf]
        omega
    · rw [if_neg (by simpa using hlt)]
      refine SC.wp_exit ?_
      have he : i = outs.length := by omega
      subst he
      rw [List.take_length] at hi2
      show Exit.inBlock b Q (.exit b) _ _
      simp only [Exit.inBlock, if_true]
      refine hQ _ _ hi2 ?_ trivial
      intro q hq1 hq2
      rw [hS2 q (by omega)]
      exact hsame1 q hq1 hq2

end
end Go.Proofs.Ytioodpjcpadkoaa.K
