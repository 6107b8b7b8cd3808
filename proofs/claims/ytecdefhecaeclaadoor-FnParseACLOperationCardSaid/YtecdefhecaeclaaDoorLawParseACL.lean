/- FnParseACLOperation: a text is read as the value whose word it is, without dots, underscores and dashes, without blanks at the ends, in letters of either size; any other one is an error; so is a text that is unmarshalled. Condition: the package variables that are listed read as their initialisers lay them (tied; two tables pinned). -/
import Derived.Test.YtecdefhecaeclaaDoorCards
import Derived.Test.YtecdefhecaeclaaDoorTie
import Derived.Test.YtecdefhecaeclaaDoorParseACL
import Derived.ProofKit
import Derived.OpenShut
import Derived.ChangeMaps5
import Derived.LaidMore
import Derived.Lay
import Derived.SevenTiedAt
import Derived.Stop.Joined
namespace Go.Proofs.YtecdefhecaeclaaDoor.fnParseACLOperation
open Go.ChangeMaps Go.ChangeShapes Go.WideShapes Go.ChangeAt Go.RowKit Go.Proofs.YtecdefhecaeclaaDoor
set_option linter.unusedVariables false
set_option linter.unusedSimpArgs false
theorem own : ownKnob Tryd.prog.godebug = none := by kernel_rfl
theorem gA : Tryd.prog.globalNamed "strings.asciiSpace" = some 0 := by kernel_rfl
theorem tA : (Tryd.prog.globals[0]?).map (·.type) = some 51 := by kernel_rfl
theorem uA : Tryd.prog.underlying 51 = some (.array 256 5) := by kernel_rfl
theorem cE : Tryd.prog.cellsOf 5 = 1 := by kernel_rfl
theorem cA : Tryd.prog.cellsOf 51 = 256 := by kernel_rfl
theorem eA : (Rows.laid_strings_asciiSpace : DataW Unit) = Lib.tabData .u8 Lib.asciiSpaceTab := by kernel_rfl
/-- what the list gives: the table of blanks -/
theorem tab {W : World} (h : laidMetH Tryd.prog Rows.fnParseACLOperationRow.laid W) : K.AsciiTab Tryd.prog W := by
  rw [MakeChecks.laidMetH_plain _ _ _ (by kernel_rfl)] at h
  have h2 : laidMet Tryd.prog (("strings.asciiSpace", Rows.laid_strings_asciiSpace) :: [("unicode.CaseRanges", Rows.laid_unicode_CaseRanges), ("unicode/utf8.first", Rows.laid_unicode_utf8_first)]) W := laidMet.tail (laidMet.tail h)
  rw [eA] at h2
  exact Lib.tabIs_of_head gA tA uA Tryd.underlying5 cE cA h2
set_option maxRecDepth 100000 in
theorem lifted (os : Os) (started : os.Started) (H : Type) (enc : TypeId × Value → H) :
    ReturnsInHanded {} Tryd.checked os 3 .any (fun w args => (Rows.fnParseACLOperationSpec.pre enc Tryd.prog Tryd.f3 Rows.fnParseACLOperationRow.domain false w args ∧ laidMetH Tryd.prog Rows.fnParseACLOperationRow.laid w) ∧ sizedMet enc Tryd.prog Tryd.f3 (OpenSpec.ofChange Rows.fnParseACLOperationSpec) false w args)
      (Rows.fnParseACLOperationSpec.post enc Tryd.prog Tryd.f3 false true false false) := by
  refine returnsInHanded_of_change_and (C := Tryd.checked) (X := fun w _ => laidMetH Tryd.prog Rows.fnParseACLOperationRow.laid w) (fun _ _ _ hh h => h.of_heap hh) own started (by kernel_rfl) Tryd.func3
    (ChangeSpec.witness_shaped (enc := enc) (C := Tryd.checked) (os := os) (X := fun w _ => laidMetH Tryd.prog Rows.fnParseACLOperationRow.laid w) false (World.laidAll Tryd.prog os Rows.fnParseACLOperationRow.laid) #[.string ⟨#[]⟩] 8 (World.laidAll_os _ _ _)
      (World.shaped_of_ZipB (by kernel_rfl) (by kernel_rfl)) (by kernel_rfl) (by kernel_rfl) (by kernel_rfl)
      (by rw [MakeChecks.laidMetH_plain _ _ _ (by kernel_rfl)]; exact laidMet_laidAll _ (by kernel_rfl) (by kernel_rfl))) ?_
  intro W base args ds gs before hval0 hW _ _ hL _
  have hval : ∀ (j : Nat) t v, Tryd.f3.params[j]? = some t → args[j]? = some v → Value.okWide Tryd.prog W .any base t v := hval0
  have hW' := hW
  obtain ⟨p, q, hA0, hV, rfl, _, _⟩ := hW
  have hA : DataW.TrodAll enc Tryd.prog W 0 (fun _ => true) true Tryd.f3.params.toList args.toList ds p := hA0
  rw [Tryd.params3] at hA hval
  obtain ⟨v0, d0, rfl, rfl, h0⟩ := trodAll_one hA
  obtain ⟨rfl, rfl⟩ := trodVars_none hV
  obtain ⟨x, rfl, rfl, rfl, wx⟩ := open_string Tryd.underlying9 (hval 0 9 v0 rfl rfl) h0
  simp only [List.append_nil] at hW'
  obtain ⟨⟨l⟩⟩ := x
  have hc := K.law W l (tab hL)
  refine hc.mono fun e W' ⟨he, hb⟩ => ?_
  subst he
  exact ⟨_, rfl, _, _, _, [], [], [], hW', trodAll_mk1 (shut_bool Tryd.underlying4 _), trodAll_mk1 (shut_string Tryd.underlying9 wx), rfl, hb.frame _, fun h => by cases h⟩
theorem said : Rows.FnParseACLOperationSaid :=
  OpenClaim.holds_of_wide 3 Tryd.f3 rfl rfl rfl rfl rfl rfl rfl ⟨rfl, rfl, rfl, rfl, rfl⟩ rfl rfl rfl rfl rfl (by kernel_rfl) Tryd.func3 (by kernel_rfl)
    (of_decide_eq_true (by kernel_rfl)) (by unfold Func.isWrapper; first | (rw [if_pos (by decide +kernel)]; kernel_rfl) | (rw [if_neg (by decide +kernel)]; exact ⟨rfl, rfl⟩))
    (fun os started H enc _ => lifted os started H enc)
theorem plain (f : FuncId) (fn : Func) (hf : Tryd.pinned.checked.prog.funcNamed "pub-kmsg/laws.FnParseACLOperation" = some f) (hfn : Tryd.pinned.checked.prog.funcs[f]? = some fn) :
    false = Tryd.pinned.checked.prog.looks [] ∧ ∀ (j : Nat) t, fn.params[j]? = some t → Tryd.pinned.checked.prog.wantsStandIn t = false := by
  obtain rfl : f = 3 := Option.some.inj ((show Tryd.prog.funcNamed "pub-kmsg/laws.FnParseACLOperation" = some 3 by kernel_rfl).symm.trans hf) |>.symm
  obtain rfl : fn = Tryd.f3 := (Option.some.inj (Tryd.func3.symm.trans hfn)).symm
  refine ⟨by kernel_rfl, fun j t ht => ?_⟩
  rw [Tryd.params3] at ht
  have hm := Array.mem_of_getElem? ht
  simp only [List.mem_toArray, List.mem_cons, List.not_mem_nil, or_false] at hm
  rcases hm with rfl
  exact (show Tryd.prog.wantsStandIn 9 = false by kernel_rfl)
theorem card : Rows.FnParseACLOperationCardSaid :=
  Claim7.holds_tied_plain_at .later [] _ _ _ _ said (fun _ h => by cases h) (by kernel_rfl) (fun _ h => by cases h) fnParseACLOperation_row_tie rfl ⟨rfl, rfl⟩ (by kernel_rfl) rfl plain (by kernel_rfl)
end Go.Proofs.YtecdefhecaeclaaDoor.fnParseACLOperation
namespace Go.Proofs.YtecdefhecaeclaaDoor
theorem fnParseACLOperation_holds : Rows.FnParseACLOperationCardSaid := fnParseACLOperation.card
end Go.Proofs.YtecdefhecaeclaaDoor
#print axioms Go.Proofs.YtecdefhecaeclaaDoor.fnParseACLOperation_holds
