/-
  No cell of these rows narrows 'for every input' (looked for: loops, veiled, ifaces, maps, wideKeys, modest, calm, conditions, laid).
  DERIVED. THE GIVEN ROWS OF THIS SEAT. 3 by the template 'for every input the law returns true; each argument reads behind the call as it read before'; 0 by the template 'total and deterministic' (their statements: Qxb6618968aTotals.lean).
  GIVEN WITH THE SEED: the statements are not yours to turn. If you find one false, say at which input.
  Laid BY PROGRAM, IN A SANDBOX (cutbox-rows.mjs): the forced cells as the released guide's own fill.sh prints them over the translation 22e7547961846907… (all of the seat's roots in one cut). By AI agents, Wed Nov 11 2026. No macro, syntax, notation, axiom, sorry.
-/
import Derived.Test.Qxb6618968aChecked
import GoSem.Claim
import GoSem.ClaimJoined
import GoSem.ClaimMapViews
import Derived.JoinedTies
import Derived.KernelRfl
namespace Go.Proofs.Qxb6618968a
/- THE CELL 'sum', in the pinned program and in every row, IS THE sha256 OF THE DUMP (.gsa) THAT Qxb6618968aProg.lean LOADS. Nothing in Lean hashes anything: it is a label: what it is worth is what the hold of that sum in a sandbox is worth. -/
noncomputable def Try.pinned : Pinned := { name := "qxb6618968a", sum := "22e754796184690714842ab3837d542e199e4a8a95ec1e9ecd242c9951342175", checked := Try.checked }
namespace Rows
def none {H : Type} : Left H := { results := [], args := [] }

/-- 'zzlaws_internal_shape_b1.FnLeafTextAgreesWithCheck': WHATEVER THE INPUT: true; the input reads as it did. -/
def fnLeafTextAgreesWithCheckSpec : ChangeSpec := { name := "fnLeafTextAgreesWithCheck", fn := fun _ => fun
  | [d1, d2] => { results := [.lit (.bool true)], args := [d1, d2] }
  | _ => none }
def fnLeafTextAgreesWithCheckRow : OpenClaim := { program := "qxb6618968a", sum := "22e754796184690714842ab3837d542e199e4a8a95ec1e9ecd242c9951342175", func := "example.com/rightsbook/rightsbook/zzlaws_internal_shape_b1.FnLeafTextAgreesWithCheck", spec := "fnLeafTextAgreesWithCheck", inPlace := ["internal/abi.NoEscape", "internal/bytealg.MakeNoZero"], unfollowed := true, recurses := true, apart := false }
def FnLeafTextAgreesWithCheckSaid : Prop := fnLeafTextAgreesWithCheckRow.holds Try.pinned (OpenSpec.ofChange fnLeafTextAgreesWithCheckSpec)

/-- ITS FALSE NEIGHBOUR: 'it returns false'. Refute it at one input. -/
def fnLeafTextAgreesWithCheckWrong : ChangeSpec := { name := "fnLeafTextAgreesWithCheck", fn := fun _ => fun
  | [d1, d2] => { results := [.lit (.bool false)], args := [d1, d2] }
  | _ => none }
def FnLeafTextAgreesWithCheckWrongFalsely : Prop := fnLeafTextAgreesWithCheckRow.holds Try.pinned (OpenSpec.ofChange fnLeafTextAgreesWithCheckWrong)

/-- 'zzlaws_internal_shape_b1.FnLeafTextAcceptsEveryMember': WHATEVER THE INPUT: true; the input reads as it did. -/
def fnLeafTextAcceptsEveryMemberSpec : ChangeSpec := { name := "fnLeafTextAcceptsEveryMember", fn := fun _ => fun
  | [d1, d2, d3] => { results := [.lit (.bool true)], args := [d1, d2, d3] }
  | _ => none }
def fnLeafTextAcceptsEveryMemberRow : OpenClaim := { program := "qxb6618968a", sum := "22e754796184690714842ab3837d542e199e4a8a95ec1e9ecd242c9951342175", func := "example.com/rightsbook/rightsbook/zzlaws_internal_shape_b1.FnLeafTextAcceptsEveryMember", spec := "fnLeafTextAcceptsEveryMember", inPlace := ["internal/abi.NoEscape", "internal/bytealg.MakeNoZero"], unfollowed := true, recurses := true, apart := false }
def FnLeafTextAcceptsEveryMemberSaid : Prop := fnLeafTextAcceptsEveryMemberRow.holds Try.pinned (OpenSpec.ofChange fnLeafTextAcceptsEveryMemberSpec)

/-- ITS FALSE NEIGHBOUR: 'it returns false'. Refute it at one input. -/
def fnLeafTextAcceptsEveryMemberWrong : ChangeSpec := { name := "fnLeafTextAcceptsEveryMember", fn := fun _ => fun
  | [d1, d2, d3] => { results := [.lit (.bool false)], args := [d1, d2, d3] }
  | _ => none }
def FnLeafTextAcceptsEveryMemberWrongFalsely : Prop := fnLeafTextAcceptsEveryMemberRow.holds Try.pinned (OpenSpec.ofChange fnLeafTextAcceptsEveryMemberWrong)

/-- 'zzlaws_internal_shape_b1.FnFuncCheckKeepsOrderAcrossShapes': WHATEVER THE INPUT: true; the input reads as it did. -/
def fnFuncCheckKeepsOrderAcrossShapesSpec : ChangeSpec := { name := "fnFuncCheckKeepsOrderAcrossShapes", fn := fun _ => fun
  | [d1, d2, d3] => { results := [.lit (.bool true)], args := [d1, d2, d3] }
  | _ => none }
def fnFuncCheckKeepsOrderAcrossShapesRow : OpenClaim := { program := "qxb6618968a", sum := "22e754796184690714842ab3837d542e199e4a8a95ec1e9ecd242c9951342175", func := "example.com/rightsbook/rightsbook/zzlaws_internal_shape_b1.FnFuncCheckKeepsOrderAcrossShapes", spec := "fnFuncCheckKeepsOrderAcrossShapes", inPlace := ["internal/abi.NoEscape", "internal/bytealg.MakeNoZero"], unfollowed := true, recurses := true, apart := false }
def FnFuncCheckKeepsOrderAcrossShapesSaid : Prop := fnFuncCheckKeepsOrderAcrossShapesRow.holds Try.pinned (OpenSpec.ofChange fnFuncCheckKeepsOrderAcrossShapesSpec)

/-- ITS FALSE NEIGHBOUR: 'it returns false'. Refute it at one input. -/
def fnFuncCheckKeepsOrderAcrossShapesWrong : ChangeSpec := { name := "fnFuncCheckKeepsOrderAcrossShapes", fn := fun _ => fun
  | [d1, d2, d3] => { results := [.lit (.bool false)], args := [d1, d2, d3] }
  | _ => none }
def FnFuncCheckKeepsOrderAcrossShapesWrongFalsely : Prop := fnFuncCheckKeepsOrderAcrossShapesRow.holds Try.pinned (OpenSpec.ofChange fnFuncCheckKeepsOrderAcrossShapesWrong)

end Rows
end Go.Proofs.Qxb6618968a
