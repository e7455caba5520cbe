/-
  No cell of these rows narrows 'for every input' (looked for: loops, veiled, ifaces, maps, wideKeys, modest, calm, conditions, laid).
  DERIVED. THE GIVEN ROWS OF THIS SEAT. 2 by the template 'for every input the law returns true; each argument reads behind the call as it read before'; 0 by the template 'total and deterministic' (their statements: Qxb6617777aTotals.lean).
  GIVEN WITH THE SEED: the statements are not yours to turn. If you find one false, say at which input.
  Laid BY PROGRAM, IN A SANDBOX (cutbox-rows.mjs): the forced cells as the released guide's own fill.sh prints them over the translation 3f7b18433c60416c… (all of the seat's roots in one cut). By AI agents, Wed Nov 11 2026. No macro, syntax, notation, axiom, sorry.
-/
import Derived.Test.Qxb6617777aChecked
import GoSem.Claim
import GoSem.ClaimJoined
import GoSem.ClaimMapViews
import Derived.JoinedTies
import Derived.KernelRfl
namespace Go.Proofs.Qxb6617777a
/- THE CELL 'sum', in the pinned program and in every row, IS THE sha256 OF THE DUMP (.gsa) THAT Qxb6617777aProg.lean LOADS. Nothing in Lean hashes anything: it is a label: what it is worth is what the hold of that sum in a sandbox is worth. -/
noncomputable def Try.pinned : Pinned := { name := "qxb6617777a", sum := "3f7b18433c60416c600e4e9ebdf025cd51f4a837f25ea4db04c535ff8dad2b38", checked := Try.checked }
namespace Rows
def none {H : Type} : Left H := { results := [], args := [] }

/-- 'zzlaws_root_b1.FnSketchOfGainsOneRuneWhereverOneIsPutIn': WHATEVER THE INPUT: true; the input reads as it did. -/
def fnSketchOfGainsOneRuneWhereverOneIsPutInSpec : ChangeSpec := { name := "fnSketchOfGainsOneRuneWhereverOneIsPutIn", fn := fun _ => fun
  | [d1, d2, d3] => { results := [.lit (.bool true)], args := [d1, d2, d3] }
  | _ => none }
def fnSketchOfGainsOneRuneWhereverOneIsPutInRow : OpenClaim := { program := "qxb6617777a", sum := "3f7b18433c60416c600e4e9ebdf025cd51f4a837f25ea4db04c535ff8dad2b38", func := "example.com/prudent-access/prudent-access/zzlaws_root_b1.FnSketchOfGainsOneRuneWhereverOneIsPutIn", spec := "fnSketchOfGainsOneRuneWhereverOneIsPutIn", apart := false }
def FnSketchOfGainsOneRuneWhereverOneIsPutInSaid : Prop := fnSketchOfGainsOneRuneWhereverOneIsPutInRow.holds Try.pinned (OpenSpec.ofChange fnSketchOfGainsOneRuneWhereverOneIsPutInSpec)

/-- ITS FALSE NEIGHBOUR: 'it returns false'. Refute it at one input. -/
def fnSketchOfGainsOneRuneWhereverOneIsPutInWrong : ChangeSpec := { name := "fnSketchOfGainsOneRuneWhereverOneIsPutIn", fn := fun _ => fun
  | [d1, d2, d3] => { results := [.lit (.bool false)], args := [d1, d2, d3] }
  | _ => none }
def FnSketchOfGainsOneRuneWhereverOneIsPutInWrongFalsely : Prop := fnSketchOfGainsOneRuneWhereverOneIsPutInRow.holds Try.pinned (OpenSpec.ofChange fnSketchOfGainsOneRuneWhereverOneIsPutInWrong)

/-- 'zzlaws_root_b1.FnSketchOfSplitsAtAnyRuneStart': WHATEVER THE INPUT: true; the input reads as it did. -/
def fnSketchOfSplitsAtAnyRuneStartSpec : ChangeSpec := { name := "fnSketchOfSplitsAtAnyRuneStart", fn := fun _ => fun
  | [d1, d2] => { results := [.lit (.bool true)], args := [d1, d2] }
  | _ => none }
def fnSketchOfSplitsAtAnyRuneStartRow : OpenClaim := { program := "qxb6617777a", sum := "3f7b18433c60416c600e4e9ebdf025cd51f4a837f25ea4db04c535ff8dad2b38", func := "example.com/prudent-access/prudent-access/zzlaws_root_b1.FnSketchOfSplitsAtAnyRuneStart", spec := "fnSketchOfSplitsAtAnyRuneStart", apart := false }
def FnSketchOfSplitsAtAnyRuneStartSaid : Prop := fnSketchOfSplitsAtAnyRuneStartRow.holds Try.pinned (OpenSpec.ofChange fnSketchOfSplitsAtAnyRuneStartSpec)

/-- ITS FALSE NEIGHBOUR: 'it returns false'. Refute it at one input. -/
def fnSketchOfSplitsAtAnyRuneStartWrong : ChangeSpec := { name := "fnSketchOfSplitsAtAnyRuneStart", fn := fun _ => fun
  | [d1, d2] => { results := [.lit (.bool false)], args := [d1, d2] }
  | _ => none }
def FnSketchOfSplitsAtAnyRuneStartWrongFalsely : Prop := fnSketchOfSplitsAtAnyRuneStartRow.holds Try.pinned (OpenSpec.ofChange fnSketchOfSplitsAtAnyRuneStartWrong)

end Rows
end Go.Proofs.Qxb6617777a
