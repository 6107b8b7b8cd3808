/- FnNewVoteResponse holds for every input. No condition. -/
import Derived.Test.YtjbbohfaihkolaaRows
import Derived.Test.YtjbbohfaihkolaaNewVoteResponse
import Derived.WalkKit
import Derived.ProofKit
import Derived.OpenShut
import Derived.Below
import Derived.SizedLaws
namespace Go.Proofs.Ytjbbohfaihkolaa.fnNewVoteResponse
open Go.ChangeShapes Go.WideShapes Go.ChangeAt Go.RowKit
set_option linter.unusedVariables false
theorem own : ownKnob Try.prog.godebug = none := by kernel_rfl
set_option maxRecDepth 100000 in
theorem lifted (os : Os) (started : os.Started) (H : Type) (enc : TypeId × Value → H) :
    ReturnsInHanded {} Try.checked os 3 .any (Rows.fnNewVoteResponseSpec.pre6 enc Try.prog Try.f3 Rows.fnNewVoteResponseRow.domain false) (Rows.fnNewVoteResponseSpec.post enc Try.prog Try.f3 false true false false) := by
  refine returnsInHanded_of_change_sized (C := Try.checked) own started (by kernel_rfl) Try.func3
    (ChangeSpec.witness6 (enc := enc) (C := Try.checked) false ⟨#[], #[.int .u8 0], []⟩ 8 (by kernel_rfl) (by kernel_rfl) (by kernel_rfl) (by kernel_rfl)) ?_
  intro W base args ds gs before hval0 hW hcnd hsz0 _
  have hval : ∀ (j : Nat) t v, Try.f3.params[j]? = some t → args[j]? = some v → Value.okWide Try.prog W .any base t v := hval0
  have hW' := hW
  obtain ⟨p, q, hA0, hV, rfl, hfz, hnd⟩ := hW
  have hA : DataW.TrodAll enc Try.prog W 0 (fun _ => true) true Try.f3.params.toList args.toList ds p := hA0
  rw [Try.params3] at hA hval
  obtain ⟨v0, d0, rfl, rfl, h0⟩ := trodAll_one hA
  obtain ⟨rfl, rfl⟩ := trodVars_none hV
  obtain ⟨a, rfl, rfl, rfl, wa⟩ := open_int Try.underlying5 (hval 0 5 v0 rfl rfl) h0
  clear hA0 hval0
  simp only [List.append_nil] at hW'
  have hb := bounds_u8 wa
  obtain ⟨n, rfl⟩ : ∃ n : Nat, a = (n : Int) := ⟨a.toNat, by omega⟩
  refine (K.NewVoteResponse.law W n (by omega)).mono fun e W' ⟨he, bel⟩ => ?_
  subst he
  exact ⟨_, rfl, _, _, _, [], _, [], hW', trodAll_mk1 (shut_bool Try.underlying4 _), trodAll_mk1 (shut_int Try.underlying5 wa), rfl, bel.frame _, fun h => by cases h⟩
theorem named : Try.pinned.checked.prog.funcNamed Rows.fnNewVoteResponseRow.func = some 3 := by kernel_rfl
theorem closed : joinedFacts Try.pinned.checked.prog 3 Try.f3 Rows.fnNewVoteResponseSpec Rows.fnNewVoteResponseRow = true := by kernel_rfl
theorem inst : Try.f3.isInstance Try.pinned.checked.prog Rows.fnNewVoteResponseRow.origin Rows.fnNewVoteResponseRow.targs := of_decide_eq_true (by kernel_rfl)
theorem wrapper : Try.f3.isWrapper Try.pinned.checked.prog Rows.fnNewVoteResponseRow.wrapper Rows.fnNewVoteResponseRow.mainSum := by unfold Func.isWrapper; first | (rw [if_pos (by decide +kernel)]; kernel_rfl) | (rw [if_neg (by decide +kernel)]; exact ⟨rfl, rfl⟩)
theorem over : Rows.fnNewVoteResponseRow.holds Try.pinned (OpenSpec.ofChange Rows.fnNewVoteResponseSpec) :=
  OpenClaim.holds_of_wide 3 Try.f3 rfl rfl rfl rfl rfl rfl rfl ⟨rfl, rfl, rfl, rfl, rfl⟩ rfl rfl rfl rfl rfl named Try.func3 closed inst wrapper
    (fun os started H enc _ => lifted os started H enc)
theorem proved : Rows.FnNewVoteResponseSaid := over
end Go.Proofs.Ytjbbohfaihkolaa.fnNewVoteResponse
namespace Go.Proofs.Ytjbbohfaihkolaa
theorem fnNewVoteResponse_holds : Rows.FnNewVoteResponseSaid := fnNewVoteResponse.proved
end Go.Proofs.Ytjbbohfaihkolaa
#print axioms Go.Proofs.Ytjbbohfaihkolaa.fnNewVoteResponse_holds
