/- FnConfigEarly: for every input the law answers true and leaves its arguments as they were: the tied card. Conditions: those of the given row (the listed package-level variables start as the program's text lays them, which the card ties). No conditions but those in each theorem's own binders. -/
import Derived.Test.YtnpkgmgedgcjmaaGreatDoorCards
import Derived.Test.YtnpkgmgedgcjmaaGreatDoorTie
import Derived.LaidMore
import Derived.Stop.Joined
import Derived.SevenTiedAt
import Derived.Test.YtnpkgmgedgcjmaaGreatDoorCE48
import Derived.Test.YtnpkgmgedgcjmaaGreatDoorCE49
namespace Go.Proofs.YtnpkgmgedgcjmaaGreatDoor
set_option linter.unusedVariables false
set_option linter.unusedSimpArgs false
open Go.ChangeShapes Go.WideShapes Go.RowKit

set_option maxHeartbeats 40000000 in
theorem fnConfigEarly_holds : Rows.FnConfigEarlySaid :=
  OpenClaim.holds_of_wide 14 Tryz.f14 rfl rfl rfl rfl rfl rfl rfl ⟨rfl, rfl, rfl, rfl, rfl⟩ rfl rfl rfl rfl rfl (by as_aux_lemma => kernel_rfl) Tryz.func14 jf_early
    (of_decide_eq_true (by as_aux_lemma => kernel_rfl)) (by unfold Func.isWrapper; first | (rw [if_pos (by decide +kernel)]; kernel_rfl) | (rw [if_neg (by decide +kernel)]; exact ⟨rfl, rfl⟩))
    (fun os started H enc _ => lifted_early os started H enc)

set_option maxHeartbeats 40000000 in
theorem plain_early (f : FuncId) (fn : Func) (hf : Tryz.pinned.checked.prog.funcNamed "loop.example/pub-g03424/laws.FnConfigEarly" = some f) (hfn : Tryz.pinned.checked.prog.funcs[f]? = some fn) :
    true = Tryz.pinned.checked.prog.looks [] ∧ ∀ (j : Nat) t, fn.params[j]? = some t → Tryz.pinned.checked.prog.wantsStandIn t = false := by
  obtain rfl : f = 14 := Option.some.inj ((show Tryz.prog.funcNamed "loop.example/pub-g03424/laws.FnConfigEarly" = some 14 by kernel_rfl).symm.trans hf) |>.symm
  obtain rfl : fn = Tryz.f14 := (Option.some.inj (Tryz.func14.symm.trans hfn)).symm
  refine ⟨by kernel_rfl, fun j t ht => ?_⟩
  rw [Tryz.params14] at ht
  have hm : t ∈ [5, 5, 5, 4, 22, 39, 22] := by simpa using Array.mem_of_getElem? ht
  have hall : ([5, 5, 5, 4, 22, 39, 22].all fun u => !Tryz.prog.wantsStandIn u) = true := by kernel_rfl
  exact (show Tryz.prog.wantsStandIn t = false by simpa using List.all_eq_true.1 hall t hm)

set_option maxHeartbeats 40000000 in
/-- THE CARD OF FnConfigEarly. -/
theorem fnConfigEarly_card : Rows.FnConfigEarlyCardSaid :=
  Claim7.holds_tied_plain_at .later [] _ _ _ _ fnConfigEarly_holds (fun _ h => by cases h) (by as_aux_lemma => kernel_rfl) (fun _ h => by cases h) fnConfigEarly_row_tie rfl ⟨rfl, rfl⟩ (by as_aux_lemma => kernel_rfl) rfl plain_early (by as_aux_lemma => kernel_rfl)
#print axioms fnConfigEarly_card
end Go.Proofs.YtnpkgmgedgcjmaaGreatDoor
