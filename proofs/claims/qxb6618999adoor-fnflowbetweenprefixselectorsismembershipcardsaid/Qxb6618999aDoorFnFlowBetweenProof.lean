import Derived.Test.Qxb6618999aDoorRowC
import Derived.Test.Qxb6618999aDoorWU
import Derived.Test.Qxb6618999aDoorTie
import Derived.Test.Qxb6618999aDoorCards
import Derived.SevenTiedAt
namespace Go.Proofs.Qxb6618999aDoor
open Go Go.ChangeShapes Go.WideShapes Go.ChangeAt Go.WideMaps Go.WideElems Go.RowKit
set_option maxRecDepth 100000
theorem mainAny : MainAny := main_any
theorem row_holds : Rows.FnFlowBetweenPrefixSelectorsIsMembershipSaid :=
  OpenClaim.holds_of_wide 3 Tryd.f3 rfl rfl rfl rfl rfl rfl rfl ⟨rfl, rfl, rfl, rfl, rfl⟩ rfl rfl rfl rfl rfl (by kernel_rfl) Tryd.func3 (by kernel_rfl) (of_decide_eq_true (by kernel_rfl))
    (by unfold Func.isWrapper; first | (rw [if_pos (by decide +kernel)]; kernel_rfl) | (rw [if_neg (by decide +kernel)]; exact ⟨rfl, rfl⟩))
    (fun os started H enc _ => lifted mainAny os started H enc)
theorem FnFlowBetweenPrefixSelectorsIsMembershipCardProved : Rows.FnFlowBetweenPrefixSelectorsIsMembershipCardSaid :=
  Claim7.holds_tied_plain_at .later [] [.data, .data, .data, .called, .called, .zero] true (true, "f0d8ebdd8c404108461692212f468137c4616e3af8b66ec69e747c2216bb9053") false
    row_holds (fun _ h => by cases h) (by kernel_rfl) (fun _ h => by cases h) fnFlowBetweenPrefixSelectorsIsMembership_row_tie rfl ⟨rfl, rfl⟩ (by kernel_rfl) rfl
    (fun f fn hf hfn => by
      obtain rfl : f = 3 := Option.some.inj ((show Tryd.prog.funcNamed Rows.fnFlowBetweenPrefixSelectorsIsMembershipRow.func = some 3 by kernel_rfl).symm.trans hf) |>.symm
      obtain rfl : fn = Tryd.f3 := (Option.some.inj (Tryd.func3.symm.trans hfn)).symm
      refine ⟨by kernel_rfl, fun j t ht => ?_⟩
      have w22 : Tryd.prog.wantsStandIn 22 = false := by kernel_rfl
      have w5 : Tryd.prog.wantsStandIn 5 = false := by kernel_rfl
      have w23 : Tryd.prog.wantsStandIn 23 = false := by kernel_rfl
      have w4 : Tryd.prog.wantsStandIn 4 = false := by kernel_rfl
      have w3 : Tryd.prog.wantsStandIn 3 = false := by kernel_rfl
      rw [Tryd.params3] at ht
      have hm := List.mem_of_getElem? (by simpa using ht)
      simp only [List.mem_cons, List.not_mem_nil, or_false] at hm
      rcases hm with h | h | h | h | h | h | h | h | h | h <;> subst h <;> assumption)
    (by kernel_rfl)
#print axioms FnFlowBetweenPrefixSelectorsIsMembershipCardProved
end Go.Proofs.Qxb6618999aDoor
