/-
  No cell of these rows narrows 'for every input' (looked for: loops, veiled, ifaces, maps, wideKeys, modest, calm, conditions, laid).
  DERIVED. THE GIVEN ROWS OF THIS SEAT. 1 by the template 'for every input the law returns true; each argument reads behind the call as it read before'; 0 by the template 'total and deterministic' (their statements: Qxb6618889aTotals.lean).
  GIVEN WITH THE SEED: the statements are not yours to turn. If you find one false, say at which input.
  Laid BY PROGRAM, IN A SANDBOX (cutbox-rows.mjs): the forced cells as the released guide's own fill.sh prints them over the translation aa098e592fc326eb… (all of the seat's roots in one cut). By AI agents, Wed Nov 11 2026. No macro, syntax, notation, axiom, sorry.
-/
import Derived.Test.Qxb6618889aChecked
import GoSem.Claim
import GoSem.ClaimJoined
import GoSem.ClaimMapViews
import Derived.JoinedTies
import Derived.KernelRfl
namespace Go.Proofs.Qxb6618889a
/- THE CELL 'sum', in the pinned program and in every row, IS THE sha256 OF THE DUMP (.gsa) THAT Qxb6618889aProg.lean LOADS. Nothing in Lean hashes anything: it is a label: what it is worth is what the hold of that sum in a sandbox is worth. -/
noncomputable def Try.pinned : Pinned := { name := "qxb6618889a", sum := "aa098e592fc326ebe9a09b55da005d0f6bda55c7278e418fce7cc874564bbcc8", checked := Try.checked }
namespace Rows
def none {H : Type} : Left H := { results := [], args := [] }

/-- 'zzlaws_jwt_b1.FnSizeRSACountsModulusBytesFrom2048Bits': WHATEVER THE INPUT: true; the input reads as it did. -/
def fnSizeRSACountsModulusBytesFrom2048BitsSpec : ChangeSpec := { name := "fnSizeRSACountsModulusBytesFrom2048Bits", fn := fun _ => fun
  | [d1, d2] => { results := [.lit (.bool true)], args := [d1, d2] }
  | _ => none }
def fnSizeRSACountsModulusBytesFrom2048BitsRow : OpenClaim := { program := "qxb6618889a", sum := "aa098e592fc326ebe9a09b55da005d0f6bda55c7278e418fce7cc874564bbcc8", func := "example.com/batonpass/batonpass/zzlaws_jwt_b1.FnSizeRSACountsModulusBytesFrom2048Bits", spec := "fnSizeRSACountsModulusBytesFrom2048Bits", apart := false }
def FnSizeRSACountsModulusBytesFrom2048BitsSaid : Prop := fnSizeRSACountsModulusBytesFrom2048BitsRow.holds Try.pinned (OpenSpec.ofChange fnSizeRSACountsModulusBytesFrom2048BitsSpec)

/-- ITS FALSE NEIGHBOUR: 'it returns false'. Refute it at one input. -/
def fnSizeRSACountsModulusBytesFrom2048BitsWrong : ChangeSpec := { name := "fnSizeRSACountsModulusBytesFrom2048Bits", fn := fun _ => fun
  | [d1, d2] => { results := [.lit (.bool false)], args := [d1, d2] }
  | _ => none }
def FnSizeRSACountsModulusBytesFrom2048BitsWrongFalsely : Prop := fnSizeRSACountsModulusBytesFrom2048BitsRow.holds Try.pinned (OpenSpec.ofChange fnSizeRSACountsModulusBytesFrom2048BitsWrong)

end Rows
end Go.Proofs.Qxb6618889a
