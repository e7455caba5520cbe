import Derived.Test.Qxb6618999aDoorWB
import Derived.WalkKit
import Derived.WalkSpells
import Derived.WalkLawsBesides
import Derived.Laws.NewBlocks
import Derived.Laws.Bits64b
import Derived.Laws.Shifts
import Derived.BigQuiet
import Derived.Below
import Derived.Deep.RegionWith
import Derived.Deep.DeepCutAuto
import Derived.Test.Qxb6618999aDoorBoxb
import Derived.Test.Qxb6618999aDoorWO
namespace Go.Proofs.Qxb6618999aDoor
open Go Go.RowKit
set_option linter.unusedVariables false
set_option linter.unusedSimpArgs false
set_option maxHeartbeats 8000000 in
set_option maxRecDepth 100000 in
theorem main_out_a (p0 p1 p2 p3 r0 r1 r2 r3 u0 u1 u2 u3 v0 v1 v2 v3 pr po qo m n : Int) (pd : Bool) (h : m < 0) (w : World) :
    Calls Tryd.prog 3 #[.agg #[.int .u8 p0, .int .u8 p1, .int .u8 p2, .int .u8 p3], .agg #[.int .u8 r0, .int .u8 r1, .int .u8 r2, .int .u8 r3], .int .u8 pr, .int .u16 po, .int .u16 qo, .bool pd, .agg #[.int .u8 u0, .int .u8 u1, .int .u8 u2, .int .u8 u3], .int .i64 m, .agg #[.int .u8 v0, .int .u8 v1, .int .u8 v2, .int .u8 v3], .int .i64 n] w fun e w' => e = .returned (.bool true) ∧ Below w.heap.size w w' := by
  go_enter Tryd.func3, Tryd.ntmps3
  go_wp2
  go_ret
  refine ⟨rfl, ?_⟩
  repeat' (first | (with_reducible exact Below.refl _ _) | (with_reducible assumption) | (with_reducible refine Below.drewN' ?_ _) | (with_reducible refine Below.drew ?_) | (with_reducible refine Below.setCell ?_ ?_ _) | (with_reducible refine Below.alloc ?_ ?_ _) | omega | (simp <;> omega))
set_option maxHeartbeats 8000000 in
set_option maxRecDepth 100000 in
theorem main_out_b (p0 p1 p2 p3 r0 r1 r2 r3 u0 u1 u2 u3 v0 v1 v2 v3 pr po qo m n : Int) (pd : Bool) (h0 : 0 ≤ m) (h : 32 < m) (w : World) :
    Calls Tryd.prog 3 #[.agg #[.int .u8 p0, .int .u8 p1, .int .u8 p2, .int .u8 p3], .agg #[.int .u8 r0, .int .u8 r1, .int .u8 r2, .int .u8 r3], .int .u8 pr, .int .u16 po, .int .u16 qo, .bool pd, .agg #[.int .u8 u0, .int .u8 u1, .int .u8 u2, .int .u8 u3], .int .i64 m, .agg #[.int .u8 v0, .int .u8 v1, .int .u8 v2, .int .u8 v3], .int .i64 n] w fun e w' => e = .returned (.bool true) ∧ Below w.heap.size w w' := by
  go_enter Tryd.func3, Tryd.ntmps3
  go_wp2
  go_ret
  refine ⟨rfl, ?_⟩
  repeat' (first | (with_reducible exact Below.refl _ _) | (with_reducible assumption) | (with_reducible refine Below.drewN' ?_ _) | (with_reducible refine Below.drew ?_) | (with_reducible refine Below.setCell ?_ ?_ _) | (with_reducible refine Below.alloc ?_ ?_ _) | omega | (simp <;> omega))
set_option maxHeartbeats 8000000 in
set_option maxRecDepth 100000 in
theorem main_out_c (p0 p1 p2 p3 r0 r1 r2 r3 u0 u1 u2 u3 v0 v1 v2 v3 pr po qo m n : Int) (pd : Bool) (h0 : 0 ≤ m) (h1 : m ≤ 32) (h : n < 0) (w : World) :
    Calls Tryd.prog 3 #[.agg #[.int .u8 p0, .int .u8 p1, .int .u8 p2, .int .u8 p3], .agg #[.int .u8 r0, .int .u8 r1, .int .u8 r2, .int .u8 r3], .int .u8 pr, .int .u16 po, .int .u16 qo, .bool pd, .agg #[.int .u8 u0, .int .u8 u1, .int .u8 u2, .int .u8 u3], .int .i64 m, .agg #[.int .u8 v0, .int .u8 v1, .int .u8 v2, .int .u8 v3], .int .i64 n] w fun e w' => e = .returned (.bool true) ∧ Below w.heap.size w w' := by
  go_enter Tryd.func3, Tryd.ntmps3
  go_wp2
  go_ret
  refine ⟨rfl, ?_⟩
  repeat' (first | (with_reducible exact Below.refl _ _) | (with_reducible assumption) | (with_reducible refine Below.drewN' ?_ _) | (with_reducible refine Below.drew ?_) | (with_reducible refine Below.setCell ?_ ?_ _) | (with_reducible refine Below.alloc ?_ ?_ _) | omega | (simp <;> omega))
set_option maxHeartbeats 8000000 in
set_option maxRecDepth 100000 in
theorem main_out_d (p0 p1 p2 p3 r0 r1 r2 r3 u0 u1 u2 u3 v0 v1 v2 v3 pr po qo m n : Int) (pd : Bool) (h0 : 0 ≤ m) (h1 : m ≤ 32) (h2 : 0 ≤ n) (h : 32 < n) (w : World) :
    Calls Tryd.prog 3 #[.agg #[.int .u8 p0, .int .u8 p1, .int .u8 p2, .int .u8 p3], .agg #[.int .u8 r0, .int .u8 r1, .int .u8 r2, .int .u8 r3], .int .u8 pr, .int .u16 po, .int .u16 qo, .bool pd, .agg #[.int .u8 u0, .int .u8 u1, .int .u8 u2, .int .u8 u3], .int .i64 m, .agg #[.int .u8 v0, .int .u8 v1, .int .u8 v2, .int .u8 v3], .int .i64 n] w fun e w' => e = .returned (.bool true) ∧ Below w.heap.size w w' := by
  go_enter Tryd.func3, Tryd.ntmps3
  go_wp2
  go_ret
  refine ⟨rfl, ?_⟩
  repeat' (first | (with_reducible exact Below.refl _ _) | (with_reducible assumption) | (with_reducible refine Below.drewN' ?_ _) | (with_reducible refine Below.drew ?_) | (with_reducible refine Below.setCell ?_ ?_ _) | (with_reducible refine Below.alloc ?_ ?_ _) | omega | (simp <;> omega))
end Go.Proofs.Qxb6618999aDoor
