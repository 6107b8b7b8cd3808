/- FnAgainProduceResponse: at every version whatever the message says, written by the rules of the protocol, is read, and written back byte by byte. Conditions: the arguments hold at most 1048576 values and letters; the package variable that is listed reads as its initialiser lays it (tied). -/
import Derived.Test.YtdnpafdgglpagaaGreatDoorCards
import Derived.Test.YtdnpafdgglpagaaGreatDoorTie
import Derived.Test.YtdnpafdgglpagaaGreatDoorPD
import Derived.WalkKit
import Derived.ProofKit
import Derived.OpenShut
import Derived.Carry
import Derived.LaidMore
import Derived.LaidHandle
import Derived.Deep.DeepHandedRow
import Derived.Deep.DeepWitnessRowRef
import Derived.Stop.LaidErr
namespace Go.Proofs.YtdnpafdgglpagaaGreatDoor.fnAgainProduceResponse
open Go.ChangeShapes Go.WideShapes Go.ChangeAt Go.RowKit Go.Proofs.YtdnpafdgglpagaaGreatDoor
set_option linter.unusedVariables false
set_option linter.unusedSimpArgs false
theorem own : ownKnob Tryz.prog.godebug = none := by kernel_rfl
theorem laidOut : laidOutB Tryz.prog = true := by kernel_rfl
theorem gE : Tryz.prog.globalNamed "pub-kmsg/pub/kmsg/inner/kbin.ErrNotEnoughData" = some 0 := by kernel_rfl
theorem gT : (Tryz.prog.globals[0]?).map (·.type) = some 50 := by kernel_rfl
theorem star : "*" ++ "errors.errorString" = "*errors.errorString" := by decide
theorem oneRow (u : TypeId) (h : Tryz.prog.typeName? 3 u = some "*errors.errorString") : u = 173 :=
  typeName_ptr_named (nm := "errors.errorString") (by rw [star]; kernel_rfl) (by kernel_rfl) (by decide) u (by rw [star]; exact h)
theorem cE : Tryz.prog.cellsOf 190 = 1 := by kernel_rfl
theorem cS : Tryz.prog.cellsOf 9 = 1 := by kernel_rfl
/-- what the list gives: the variable's cell -/
theorem sent {W : World} (h : laidMetH Tryz.prog Rows.fnAgainProduceResponseUptoRow.laid W) : ∃ a, W.cell? ⟨0, 0, none⟩ = some (K.errV a) := by
  obtain ⟨a, _, hv, _⟩ := laid_sentinel h gE gT Tryz.underlying50 oneRow Tryz.underlying173 Tryz.underlying190 rfl rfl Tryz.underlying9 cE cS
  exact ⟨a, by simpa [K.errV] using World.var?_cell gE hv 0⟩
theorem cell_lt {W : World} {g o : Nat} {v : Value} (h : W.cell? ⟨g, o, none⟩ = some v) : g < W.heap.size := by
  simp only [World.cell?] at h
  split at h
  · rename_i hb; exact (Array.getElem?_eq_some_iff.1 hb).1
  · cases h
theorem beB {W : World} (h : W.ShapedOpen Tryz.prog) : 1 < W.heap.size := by
  obtain ⟨cs, hh, _⟩ := h.1 1 #[] 133 (by rw [show Tryz.prog.globals.size = 2 by kernel_rfl]; decide) (by kernel_rfl)
  exact (Array.getElem?_eq_some_iff.1 hh).1
theorem door_met (os : Os) (args : Array Value) : laidMetH Tryz.prog Rows.fnAgainProduceResponseUptoRow.laid ((World.doorLaid Tryz.prog 400 os).forCall (fun _ _ => 0) ⟨#[], args, []⟩).memory :=
  laidMetH_of_parts3 (fuel := 8) (laidMet_of_run' 8 (by kernel_rfl) (by kernel_rfl)) (by kernel_rfl) (by kernel_rfl)
theorem reads (os : Os) {H : Type} (enc : TypeId × Value → H) : ∃ places, DataW.whole enc Tryz.prog ((World.doorLaid Tryz.prog 400 os).forCall (fun _ _ => 0) ⟨#[], #[.int .u8 0, .agg #[.int .i64 0, .slice none 0 0, .bool false, .slice none 0 0, .slice none 0 0]], []⟩).memory Tryz.f3.params.toList Rows.fnAgainProduceResponseSpec.vars false (#[.int .u8 0, .agg #[.int .i64 0, .slice none 0 0, .bool false, .slice none 0 0, .slice none 0 0]] : Array Value).toList 8 = some ([.lit (.int .u8 0), .agg [.lit (.int .i64 0), .nil, .lit (.bool false), .nil, .nil]], [], places) :=
  ⟨[], by kernel_rfl⟩
theorem bsum {H : Type} : ∀ l : List (DataW H), Rows.uptoBulkAll l = (l.map Rows.uptoBulk).sum
  | [] => by simp [Rows.uptoBulkAll]
  | d :: r => by simp only [Rows.uptoBulkAll, List.map_cons, List.sum_cons, bsum r]
theorem bulkC {H : Type} : K.BulkC (Rows.uptoBulk (H := H)) where
  one := fun d => by
    cases d with
    | lit l => cases l <;> simp [Rows.uptoBulk]
    | _ => simp [Rows.uptoBulk]
  slice := fun es sp => by simp only [Rows.uptoBulk, ← bsum]; omega
  agg := fun ps => by simp only [Rows.uptoBulk, ← bsum]; omega
set_option maxRecDepth 100000 in
theorem contract (H : Type) (enc : TypeId × Value → H) (W : World) (base : Nat) (args : Array Value) (ds gs : List (DataW H)) (before : List MemPlace)
    (hval0 : ∀ (j : Nat) t v, Tryz.f3.params[j]? = some t → args[j]? = some v → Value.okWide Tryz.prog W .any base t v)
    (hW : DataW.Whole enc Tryz.prog Tryz.f3.params.toList Rows.fnAgainProduceResponseSpec.vars false W args.toList ds gs before) (hbk : Rows.uptoBulkAll ds ≤ 1048576) (hL : laidMetH Tryz.prog Rows.fnAgainProduceResponseUptoRow.laid W) (hsh : W.ShapedOpen Tryz.prog) :
    Calls Tryz.prog 3 args W fun e W' => ∃ v, e = .returned v ∧ Rows.fnAgainProduceResponseSpec.post enc Tryz.prog Tryz.f3 false true false false W args v W' := by
  have hval := hval0
  have hW' := hW
  obtain ⟨p, q, hA0, hV, rfl, hfz, hnd⟩ := hW
  have hA : DataW.TrodAll enc Tryz.prog W 0 (fun _ => true) true Tryz.f3.params.toList args.toList ds p := hA0
  rw [Tryz.params3] at hA hval
  obtain ⟨rfl, rfl⟩ := trodVars_none hV
  obtain ⟨v0, v1, d0, d1, p0, p1, rfl, rfl, rfl, h0, h1⟩ := trodAll_two hA
  obtain ⟨n0, rfl, rfl, rfl, w0⟩ := open_int Tryz.underlying5 (hval 0 5 v0 rfl rfl) h0
  have hv1 := hval 1 26 v1 rfl rfl
  obtain ⟨fuel, h1f⟩ := h1
  obtain ⟨t, ht, hk, hbulk⟩ := K.open_tree (T := 26) K.otOK bulkC fuel _ _ h1f
  have h1 : DataW.Trod enc Tryz.prog W 0 (fun _ => true) true 26 v1 d1 p1 := ⟨fuel, h1f⟩
  have ev1 : v1 = .agg v1.cells.toList.toArray := by
    obtain ⟨cs, e, _⟩ : ∃ cs, v1 = .agg cs ∧ True := by
      have hu := Tryz.underlying26
      unfold Value.okWide at hv1
      rw [hu] at hv1
      obtain ⟨cs, e, _⟩ := hv1
      exact ⟨cs, e, trivial⟩
    rw [e]; simp [Value.cells]
  rw [← ev1] at ht
  have hb0 := bounds_u8 w0
  obtain ⟨n, rfl⟩ : ∃ n : Nat, n0 = (n : Int) := ⟨n0.toNat, by omega⟩
  obtain ⟨a, hg⟩ := sent hL
  have hlt : ∀ x ∈ p1, x.block < W.heap.size := fun x hx => by simpa using hW'.lt x (by simp [hx])
  have hgs : 1 < W.heap.size ∧ 0 < W.heap.size := ⟨beB hsh, cell_lt hg⟩
  have hb : t.bulk ≤ 1048576 := by
    simp only [Rows.uptoBulkAll] at hbk
    simp only at hbulk
    omega
  have hgl : ∀ w', Below W.heap.size W w' → K.GlE a w' := fun w' hb => by
    show w'.cell? _ = _
    rw [hb.cell (p := ⟨0, 0, none⟩) hgs.2]; exact hg
  clear hA0 hval hval0 hv1
  refine (K.AgainProduceResponse.law a W n (by omega) t v1 ht hgs.1 hgl hk hb).mono fun e W' ⟨he, bel⟩ => ?_
  subst he
  exact ⟨_, rfl, _, _, _, [], _, [], hW', trodAll_mk1 (shut_bool Tryz.underlying4 _), trodAll_mk2 (shut_int Tryz.underlying5 w0) (Below.trod laidOut (by kernel_rfl) (of_decide_eq_true (by kernel_rfl)) h1 bel hlt), rfl, bel.frame _, fun h => by cases h⟩
set_option maxRecDepth 100000 in
theorem lifted (os : Os) (started : os.Started) (H : Type) (enc : TypeId × Value → H) (F : Stop.Interp) :
    ReturnsInHanded {} Tryz.checked os 3 .any ((Rows.OpenSpec.upto Rows.fnAgainProduceResponseSpec).preRow enc Tryz.prog Tryz.f3 Rows.fnAgainProduceResponseUptoRow.domain false Rows.fnAgainProduceResponseUptoRow.laid) (((Rows.OpenSpec.upto Rows.fnAgainProduceResponseSpec).at F).post enc Tryz.prog Tryz.f3 false true false false) := by
  obtain ⟨places, hx⟩ := reads os enc
  refine returnsInHanded_of_row (C := Tryz.checked) (s := (Rows.OpenSpec.upto Rows.fnAgainProduceResponseSpec)) own started (by kernel_rfl) Tryz.func3
    (witness_row_atRef (enc := enc) (C := Tryz.checked) false (World.doorLaid Tryz.prog 400 os) #[.int .u8 0, .agg #[.int .i64 0, .slice none 0 0, .bool false, .slice none 0 0, .slice none 0 0]] rfl (by kernel_rfl) (by kernel_rfl) (by kernel_rfl)
      (OpenSpec.preRow_of_cond 8 hx (by kernel_rfl) (fun k hk => by cases hk; kernel_rfl) (by kernel_rfl) (door_met os _))) ?_
  intro W base args ds gs before hval hW _ hcond _ hL hsh _
  have hgs0 : gs = [] := by
    obtain ⟨_, _, _, hV, _⟩ := hW
    exact (trodVars_none hV).1
  have hbk : Rows.uptoBulkAll ds ≤ 1048576 := by
    have h : Rows.uptoSmall H (ds ++ gs) = true := hcond _ rfl
    rw [hgs0, List.append_nil] at h
    exact of_decide_eq_true h
  exact contract H enc W base args ds gs before hval hW hbk hL hsh
theorem said : Rows.FnAgainProduceResponseUptoSaid :=
  OpenClaim.holds_of_cond 3 Tryz.f3 rfl rfl rfl rfl rfl rfl rfl ⟨rfl, rfl, rfl, rfl, rfl⟩ rfl rfl rfl rfl rfl (by kernel_rfl) Tryz.func3 (by kernel_rfl)
    (of_decide_eq_true (by kernel_rfl)) (by unfold Func.isWrapper; first | (rw [if_pos (by decide +kernel)]; kernel_rfl) | (rw [if_neg (by decide +kernel)]; exact ⟨rfl, rfl⟩))
    (fun os started H enc _ F => by rw [OpenClaim.pre_eq_preRow]; exact lifted os started H enc F)
theorem plain (f : FuncId) (fn : Func) (hf : Tryz.pinned.checked.prog.funcNamed "pub-kmsg/laws.FnAgainProduceResponse" = some f) (hfn : Tryz.pinned.checked.prog.funcs[f]? = some fn) :
    false = Tryz.pinned.checked.prog.looks [] ∧ ∀ (j : Nat) t, fn.params[j]? = some t → Tryz.pinned.checked.prog.wantsStandIn t = false := by
  obtain rfl : f = 3 := Option.some.inj ((show Tryz.prog.funcNamed "pub-kmsg/laws.FnAgainProduceResponse" = some 3 by kernel_rfl).symm.trans hf) |>.symm
  obtain rfl : fn = Tryz.f3 := (Option.some.inj (Tryz.func3.symm.trans hfn)).symm
  refine ⟨by kernel_rfl, fun j t ht => ?_⟩
  rw [Tryz.params3] at ht
  have hm := Array.mem_of_getElem? ht
  simp only [List.mem_toArray, List.mem_cons, List.not_mem_nil, or_false] at hm

  rcases hm with rfl | rfl
  · exact (show Tryz.prog.wantsStandIn 5 = false by kernel_rfl)
  · exact (show Tryz.prog.wantsStandIn 26 = false by kernel_rfl)
theorem card : Rows.FnAgainProduceResponseUptoCardSaid :=
  Claim7.holds_tied_plain_at .later [] _ _ _ _ said (fun _ h => by cases h) (by kernel_rfl) (fun _ h => by cases h) fnAgainProduceResponseUpto_row_tie rfl ⟨rfl, rfl⟩ (by kernel_rfl) rfl plain (by kernel_rfl)
end Go.Proofs.YtdnpafdgglpagaaGreatDoor.fnAgainProduceResponse
namespace Go.Proofs.YtdnpafdgglpagaaGreatDoor
theorem fnAgainProduceResponseUpto_holds : Rows.FnAgainProduceResponseUptoCardSaid := fnAgainProduceResponse.card
end Go.Proofs.YtdnpafdgglpagaaGreatDoor
#print axioms Go.Proofs.YtdnpafdgglpagaaGreatDoor.fnAgainProduceResponseUpto_holds
