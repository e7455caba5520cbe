/-
  No cell of these rows narrows 'for every input' (looked for: loops, veiled, ifaces, maps, wideKeys, modest, calm, conditions, laid).
  DERIVED. THE GIVEN ROWS OF THIS SEAT. 2 by the template 'for every input the law returns true; each argument reads behind the call as it read before'; 0 by the template 'total and deterministic' (their statements: Qxb6618999aTotals.lean).
  GIVEN WITH THE SEED: the statements are not yours to turn. If you find one false, say at which input.
  Laid BY PROGRAM, IN A SANDBOX (cutbox-rows.mjs): the forced cells as the released guide's own fill.sh prints them over the translation f0a8b730c3358763… (all of the seat's roots in one cut). By AI agents, Wed Nov 11 2026. No macro, syntax, notation, axiom, sorry.
-/
import Derived.Test.Qxb6618999aChecked
import GoSem.Claim
import GoSem.ClaimJoined
import GoSem.ClaimMapViews
import Derived.JoinedTies
import Derived.KernelRfl
namespace Go.Proofs.Qxb6618999a
/- THE CELL 'sum', in the pinned program and in every row, IS THE sha256 OF THE DUMP (.gsa) THAT Qxb6618999aProg.lean LOADS. Nothing in Lean hashes anything: it is a label: what it is worth is what the hold of that sum in a sandbox is worth. -/
noncomputable def Try.pinned : Pinned := { name := "qxb6618999a", sum := "f0a8b730c33587636e3a4e02357d604ed82df7a3345c7d90c7fc3e96cf8b5d5d", checked := Try.checked }
namespace Rows
def none {H : Type} : Left H := { results := [], args := [] }

/-- 'zzlaws_pkg_ike_b1.FnDefaultProposalIsWellFormed': WHATEVER THE INPUT: true; the input reads as it did. -/
def fnDefaultProposalIsWellFormedSpec : ChangeSpec := { name := "fnDefaultProposalIsWellFormed", fn := fun _ => fun
  | [] => { results := [.lit (.bool true)], args := [] }
  | _ => none }
def fnDefaultProposalIsWellFormedRow : OpenClaim := { program := "qxb6618999a", sum := "f0a8b730c33587636e3a4e02357d604ed82df7a3345c7d90c7fc3e96cf8b5d5d", func := "example.com/roamwire/roamwire/zzlaws_pkg_ike_b1.FnDefaultProposalIsWellFormed", spec := "fnDefaultProposalIsWellFormed", apart := false }
def FnDefaultProposalIsWellFormedSaid : Prop := fnDefaultProposalIsWellFormedRow.holds Try.pinned (OpenSpec.ofChange fnDefaultProposalIsWellFormedSpec)

/-- ITS FALSE NEIGHBOUR: 'it returns false'. Refute it at one input. -/
def fnDefaultProposalIsWellFormedWrong : ChangeSpec := { name := "fnDefaultProposalIsWellFormed", fn := fun _ => fun
  | [] => { results := [.lit (.bool false)], args := [] }
  | _ => none }
def FnDefaultProposalIsWellFormedWrongFalsely : Prop := fnDefaultProposalIsWellFormedRow.holds Try.pinned (OpenSpec.ofChange fnDefaultProposalIsWellFormedWrong)

/-- 'zzlaws_pkg_ike_b1.FnDefaultProposalIsFreshEachCall': WHATEVER THE INPUT: true; the input reads as it did. -/
def fnDefaultProposalIsFreshEachCallSpec : ChangeSpec := { name := "fnDefaultProposalIsFreshEachCall", fn := fun _ => fun
  | [] => { results := [.lit (.bool true)], args := [] }
  | _ => none }
def fnDefaultProposalIsFreshEachCallRow : OpenClaim := { program := "qxb6618999a", sum := "f0a8b730c33587636e3a4e02357d604ed82df7a3345c7d90c7fc3e96cf8b5d5d", func := "example.com/roamwire/roamwire/zzlaws_pkg_ike_b1.FnDefaultProposalIsFreshEachCall", spec := "fnDefaultProposalIsFreshEachCall", apart := false }
def FnDefaultProposalIsFreshEachCallSaid : Prop := fnDefaultProposalIsFreshEachCallRow.holds Try.pinned (OpenSpec.ofChange fnDefaultProposalIsFreshEachCallSpec)

/-- ITS FALSE NEIGHBOUR: 'it returns false'. Refute it at one input. -/
def fnDefaultProposalIsFreshEachCallWrong : ChangeSpec := { name := "fnDefaultProposalIsFreshEachCall", fn := fun _ => fun
  | [] => { results := [.lit (.bool false)], args := [] }
  | _ => none }
def FnDefaultProposalIsFreshEachCallWrongFalsely : Prop := fnDefaultProposalIsFreshEachCallRow.holds Try.pinned (OpenSpec.ofChange fnDefaultProposalIsFreshEachCallWrong)

end Rows
end Go.Proofs.Qxb6618999a
