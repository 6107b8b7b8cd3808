/- FnAnyDefaultPrincipalData: what is read of any octets is written as octets that are read again, and written as the same. Condition: the package variable that is listed reads as its initialiser lays it (tied). -/
import Derived.Test.YtcchakpiemhpeaaDoorCards
import Derived.Test.YtcchakpiemhpeaaDoorTie
import Derived.Test.YtcchakpiemhpeaaDoorAnyDefaultPrincipalData
import Derived.WalkKit
import Derived.ProofKit
import Derived.OpenShut
import Derived.Carry
import Derived.LaidMore
import Derived.LaidHandle
import Derived.Deep.DeepHandedRow
import Derived.Deep.DeepWitnessRowRef
import Derived.Stop.LaidErr
namespace Go.Proofs.YtcchakpiemhpeaaDoor.fnAnyDefaultPrincipalData
open Go.ChangeShapes Go.WideShapes Go.ChangeAt Go.RowKit Go.Proofs.YtcchakpiemhpeaaDoor
set_option linter.unusedVariables false
set_option linter.unusedSimpArgs false
theorem own : ownKnob Tryd.prog.godebug = none := by kernel_rfl
theorem laidOut : laidOutB Tryd.prog = true := by kernel_rfl
theorem gE : Tryd.prog.globalNamed "pub-kmsg/pub/kmsg/inner/kbin.ErrNotEnoughData" = some 1 := by kernel_rfl
theorem gT : (Tryd.prog.globals[1]?).map (·.type) = some 44 := by kernel_rfl
theorem star : "*" ++ "errors.errorString" = "*errors.errorString" := by decide
theorem oneRow (u : TypeId) (h : Tryd.prog.typeName? 3 u = some "*errors.errorString") : u = 132 :=
  typeName_ptr_named (nm := "errors.errorString") (by rw [star]; kernel_rfl) (by kernel_rfl) (by decide) u (by rw [star]; exact h)
theorem cE : Tryd.prog.cellsOf 151 = 1 := by kernel_rfl
theorem cS : Tryd.prog.cellsOf 9 = 1 := by kernel_rfl
/-- what the list gives: the variable's cell -/
theorem sent {W : World} (h : laidMetH Tryd.prog Rows.fnAnyDefaultPrincipalDataRow.laid W) : ∃ a, W.cell? ⟨1, 0, none⟩ = some (K.errV a) := by
  obtain ⟨a, _, hv, _⟩ := laid_sentinel h gE gT Tryd.underlying44 oneRow Tryd.underlying132 Tryd.underlying151 rfl rfl Tryd.underlying9 cE cS
  exact ⟨a, by simpa [K.errV] using World.var?_cell gE hv 0⟩
theorem cell_lt {W : World} {g o : Nat} {v : Value} (h : W.cell? ⟨g, o, none⟩ = some v) : g < W.heap.size := by
  simp only [World.cell?] at h
  split at h
  · rename_i hb; exact (Array.getElem?_eq_some_iff.1 hb).1
  · cases h
theorem beB {W : World} (h : W.ShapedOpen Tryd.prog) : 0 < W.heap.size := by
  obtain ⟨cs, hh, _⟩ := h.1 0 #[] 85 (by rw [show Tryd.prog.globals.size = 2 by kernel_rfl]; decide) (by kernel_rfl)
  exact (Array.getElem?_eq_some_iff.1 hh).1
theorem door_met (os : Os) (args : Array Value) : laidMetH Tryd.prog Rows.fnAnyDefaultPrincipalDataRow.laid ((World.doorLaid Tryd.prog 400 os).forCall (fun _ _ => 0) ⟨#[], args, []⟩).memory :=
  laidMetH_of_parts3 (fuel := 8) (laidMet_of_run' 8 (by kernel_rfl) (by kernel_rfl)) (by kernel_rfl) (by kernel_rfl)
theorem reads (os : Os) {H : Type} (enc : TypeId × Value → H) : ∃ places, DataW.whole enc Tryd.prog ((World.doorLaid Tryd.prog 400 os).forCall (fun _ _ => 0) ⟨#[], #[.slice none 0 0], []⟩).memory Tryd.f3.params.toList Rows.fnAnyDefaultPrincipalDataSpec.vars false (#[.slice none 0 0] : Array Value).toList 8 = some ([.nil], [], places) :=
  ⟨[], by kernel_rfl⟩
theorem bsum {H : Type} : ∀ l : List (DataW H), Rows.uptoBulkAll l = (l.map Rows.uptoBulk).sum
  | [] => by simp [Rows.uptoBulkAll]
  | d :: r => by simp only [Rows.uptoBulkAll, List.map_cons, List.sum_cons, bsum r]
theorem bulkC {H : Type} : K.BulkC (Rows.uptoBulk (H := H)) where
  one := fun d => by
    cases d with
    | lit l => cases l <;> simp [Rows.uptoBulk]
    | _ => simp [Rows.uptoBulk]
  slice := fun es sp => by simp only [Rows.uptoBulk, ← bsum]; omega
  agg := fun ps => by simp only [Rows.uptoBulk, ← bsum]; omega
set_option maxRecDepth 100000 in
theorem contract (H : Type) (enc : TypeId × Value → H) (W : World) (base : Nat) (args : Array Value) (ds gs : List (DataW H)) (before : List MemPlace)
    (hval0 : ∀ (j : Nat) t v, Tryd.f3.params[j]? = some t → args[j]? = some v → Value.okWide Tryd.prog W .any base t v)
    (hW : DataW.Whole enc Tryd.prog Tryd.f3.params.toList Rows.fnAnyDefaultPrincipalDataSpec.vars false W args.toList ds gs before) (hL : laidMetH Tryd.prog Rows.fnAnyDefaultPrincipalDataRow.laid W) (hsh : W.ShapedOpen Tryd.prog) :
    Calls Tryd.prog 3 args W fun e W' => ∃ v, e = .returned v ∧ Rows.fnAnyDefaultPrincipalDataSpec.post enc Tryd.prog Tryd.f3 false true false false W args v W' := by
  have hval := hval0
  have hW' := hW
  obtain ⟨p, q, hA0, hV, rfl, hfz, hnd⟩ := hW
  have hA : DataW.TrodAll enc Tryd.prog W 0 (fun _ => true) true Tryd.f3.params.toList args.toList ds p := hA0
  rw [Tryd.params3] at hA hval
  obtain ⟨rfl, rfl⟩ := trodVars_none hV
  obtain ⟨v0, d0, rfl, rfl, h0⟩ := trodAll_one hA
  have hv0 := hval 0 22 v0 rfl rfl
  obtain ⟨fuel, h0f⟩ := h0
  obtain ⟨bs, cap, data, S, ev, hsr, hS⟩ := K.open_data (t := 22) (by kernel_rfl) bulkC hv0 h0f
  have h0 : DataW.Trod enc Tryd.prog W 0 (fun _ => true) true 22 v0 d0 p := ⟨fuel, h0f⟩
  obtain ⟨a, hg⟩ := sent hL
  have hlt : ∀ x ∈ p, x.block < W.heap.size := fun x hx => by simpa using hW'.lt x (by simp [hx])
  have hgs : 0 < W.heap.size ∧ 1 < W.heap.size := ⟨beB hsh, cell_lt hg⟩
  have hgl : ∀ w', Below W.heap.size W w' → K.GlE a w' := fun w' hb => by
    show w'.cell? _ = _
    rw [hb.cell (p := ⟨1, 0, none⟩) hgs.2]; exact hg
  clear hA0 hval hval0 hv0
  subst ev
  refine (K.law a W S bs data cap hsr hS hgs.1 hgl).mono fun e W' ⟨he, bel⟩ => ?_
  subst he
  exact ⟨_, rfl, _, _, _, [], _, [], hW', trodAll_mk1 (shut_bool Tryd.underlying4 _), trodAll_mk1 (Below.trod laidOut (by kernel_rfl) (of_decide_eq_true (by kernel_rfl)) h0 bel hlt), rfl, bel.frame _, fun h => by cases h⟩
set_option maxRecDepth 100000 in
theorem lifted (os : Os) (started : os.Started) (H : Type) (enc : TypeId × Value → H) (F : Stop.Interp) :
    ReturnsInHanded {} Tryd.checked os 3 .any ((OpenSpec.ofChange Rows.fnAnyDefaultPrincipalDataSpec).preRow enc Tryd.prog Tryd.f3 Rows.fnAnyDefaultPrincipalDataRow.domain false Rows.fnAnyDefaultPrincipalDataRow.laid) (((OpenSpec.ofChange Rows.fnAnyDefaultPrincipalDataSpec).at F).post enc Tryd.prog Tryd.f3 false true false false) := by
  obtain ⟨places, hx⟩ := reads os enc
  refine returnsInHanded_of_row (C := Tryd.checked) (s := (OpenSpec.ofChange Rows.fnAnyDefaultPrincipalDataSpec)) own started (by kernel_rfl) Tryd.func3
    (witness_row_atRef (enc := enc) (C := Tryd.checked) false (World.doorLaid Tryd.prog 400 os) #[.slice none 0 0] rfl (by kernel_rfl) (by kernel_rfl) (by kernel_rfl)
      (OpenSpec.preRow_of_cond 8 hx (by kernel_rfl) (fun k hk => by cases hk) (by kernel_rfl) (door_met os _))) ?_
  intro W base args ds gs before hval hW _ hcond _ hL hsh _
  exact contract H enc W base args ds gs before hval hW hL hsh
theorem said : Rows.FnAnyDefaultPrincipalDataSaid :=
  OpenClaim.holds_of_cond 3 Tryd.f3 rfl rfl rfl rfl rfl rfl rfl ⟨rfl, rfl, rfl, rfl, rfl⟩ rfl rfl rfl rfl rfl (by kernel_rfl) Tryd.func3 (by kernel_rfl)
    (of_decide_eq_true (by kernel_rfl)) (by unfold Func.isWrapper; first | (rw [if_pos (by decide +kernel)]; kernel_rfl) | (rw [if_neg (by decide +kernel)]; exact ⟨rfl, rfl⟩))
    (fun os started H enc _ F => by rw [OpenClaim.pre_eq_preRow]; exact lifted os started H enc F)
theorem plain (f : FuncId) (fn : Func) (hf : Tryd.pinned.checked.prog.funcNamed "pub-kmsg/laws.FnAnyDefaultPrincipalData" = some f) (hfn : Tryd.pinned.checked.prog.funcs[f]? = some fn) :
    false = Tryd.pinned.checked.prog.looks [] ∧ ∀ (j : Nat) t, fn.params[j]? = some t → Tryd.pinned.checked.prog.wantsStandIn t = false := by
  obtain rfl : f = 3 := Option.some.inj ((show Tryd.prog.funcNamed "pub-kmsg/laws.FnAnyDefaultPrincipalData" = some 3 by kernel_rfl).symm.trans hf) |>.symm
  obtain rfl : fn = Tryd.f3 := (Option.some.inj (Tryd.func3.symm.trans hfn)).symm
  refine ⟨by kernel_rfl, fun j t ht => ?_⟩
  rw [Tryd.params3] at ht
  have hm := Array.mem_of_getElem? ht
  simp only [List.mem_toArray, List.mem_cons, List.not_mem_nil, or_false] at hm

  rcases hm with rfl
  · exact (show Tryd.prog.wantsStandIn 22 = false by kernel_rfl)
theorem card : Rows.FnAnyDefaultPrincipalDataCardSaid :=
  Claim7.holds_tied_plain_at .later [] _ _ _ _ said (fun _ h => by cases h) (by kernel_rfl) (fun _ h => by cases h) fnAnyDefaultPrincipalData_row_tie rfl ⟨rfl, rfl⟩ (by kernel_rfl) rfl plain (by kernel_rfl)
end Go.Proofs.YtcchakpiemhpeaaDoor.fnAnyDefaultPrincipalData
namespace Go.Proofs.YtcchakpiemhpeaaDoor
theorem fnAnyDefaultPrincipalData_holds : Rows.FnAnyDefaultPrincipalDataCardSaid := fnAnyDefaultPrincipalData.card
end Go.Proofs.YtcchakpiemhpeaaDoor
#print axioms Go.Proofs.YtcchakpiemhpeaaDoor.fnAnyDefaultPrincipalData_holds
