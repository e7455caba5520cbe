/-
  DERIVED. GIVEN WITH THE SEED: THE CARDS: each row of Qxb6618999aDoorRows.lean that lists a variable, with what it lists TIED to the program's text (the seventh form; the later family's looks); each row that meets fmt, with fmt's text TOLD by the authors' own Lean function (tested against real Go, not proved from fmt's source: count such statements apart). THE CARD IS WHAT COUNTS. Prove the row's statement (the work); the ties are given (Qxb6618999aDoorTie.lean); close each card by the builder's one call (the guide's Derived/Test/ToyasCard.lean, 'card_holds'). Laid BY PROGRAM, IN A SANDBOX (cutbox-door.mjs). By AI agents, Wed Nov 11 2026. No macro, syntax, notation, axiom, sorry.
-/
import Derived.Test.Qxb6618999aDoorRows
import GoSem.ClaimSeven
namespace Go.Proofs.Qxb6618999aDoor
namespace Rows

/-- THE TIED CARD OF 'zzlaws_pkg_ike_b1.FnFlowBetweenPrefixSelectorsIsMembership'. -/
def fnFlowBetweenPrefixSelectorsIsMembershipCard : Claim7 := { stood := { row := fnFlowBetweenPrefixSelectorsIsMembershipRow, standIns := [], harness := (true, "f0d8ebdd8c404108461692212f468137c4616e3af8b66ec69e747c2216bb9053"), looks := false }, kinds := [], alts := [], laidByText := true, laidKinds := [.data, .data, .data, .called, .called, .zero], laidTests := true, laidLooks := .later }
def FnFlowBetweenPrefixSelectorsIsMembershipCardSaid : Prop := Claim7.holds Tryd.pinned (.plain (OpenSpec.ofChange fnFlowBetweenPrefixSelectorsIsMembershipSpec)) fnFlowBetweenPrefixSelectorsIsMembershipCard
end Rows
end Go.Proofs.Qxb6618999aDoor
