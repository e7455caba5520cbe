import Derived.Test.Qxb6618999aDoorWA
import Derived.WalkKit
import Derived.WalkSpells
import Derived.WalkLawsBesides
import Derived.Laws.NewBlocks
import Derived.BigQuiet
import Derived.Below
namespace Go.Proofs.Qxb6618999aDoor
open Go Go.RowKit
set_option linter.unusedVariables false
theorem held29 : Tryd.prog.stoodInHeld 29 = false := by kernel_rfl
theorem guard29 : Tryd.prog.eqGuardType Tryd.prog.depth 29 = false := by kernel_rfl
set_option maxRecDepth 100000 in
theorem isZero_any (a : Addr) (lo : Int) (w : World) (g : GW a w) :
    Calls Tryd.prog 18 #[.agg #[.int .u64 0, .int .u64 (lo), .pointer (some a)]] w fun e w' => e = .returned (.bool false) ∧ Below w.heap.size w w' := by
  have q1 := g.z4
  have q2 := g.z0
  have q6 := g.lt
  have q3 : 0 < w.heap.size := by omega
  have q4 : 1 < w.heap.size := by omega
  have q5 : 2 < w.heap.size := by omega
  clear q6
  have hh29 := held29
  have hg29 := guard29
  have he1 := eqSame a
  have he2 := eqNil a
  go_enter Tryd.func18, Tryd.ntmps18
  go_wp2
  go_ret
  exact ⟨rfl, (Below.refl _ _).alloc (Nat.le_refl _) _⟩
set_option maxRecDepth 100000 in
theorem bitLen_any (a : Addr) (lo : Int) (w : World) (g : GW a w) :
    Calls Tryd.prog 19 #[.agg #[.int .u64 0, .int .u64 (lo), .pointer (some a)]] w fun e w' => e = .returned (.int .i64 32) ∧ Below w.heap.size w w' := by
  have q1 := g.z4
  have q2 := g.z0
  have q6 := g.lt
  have q3 : 0 < w.heap.size := by omega
  have q4 : 1 < w.heap.size := by omega
  have q5 : 2 < w.heap.size := by omega
  clear q6
  have hh29 := held29
  have hg29 := guard29
  have he1 := eqSame a
  have he2 := eqNil a
  go_enter Tryd.func19, Tryd.ntmps19
  go_wp2
  go_ret
  exact ⟨rfl, (Below.refl _ _).alloc (Nat.le_refl _) _⟩
set_option maxRecDepth 100000 in
theorem is6_any (a : Addr) (lo : Int) (w : World) (g : GW a w) :
    Calls Tryd.prog 28 #[.agg #[.int .u64 0, .int .u64 (lo), .pointer (some a)]] w fun e w' => e = .returned (.bool false) ∧ Below w.heap.size w w' := by
  have q1 := g.z4
  have q2 := g.z0
  have q6 := g.lt
  have q3 : 0 < w.heap.size := by omega
  have q4 : 1 < w.heap.size := by omega
  have q5 : 2 < w.heap.size := by omega
  clear q6
  have hh29 := held29
  have hg29 := guard29
  have he1 := eqSame a
  have he2 := eqNil a
  go_enter Tryd.func28, Tryd.ntmps28
  go_wp2
  go_ret
  exact ⟨rfl, (Below.refl _ _).alloc (Nat.le_refl _) _⟩
set_option maxRecDepth 100000 in
theorem bits_any (a : Addr) (lo b : Int) (h0 : 1 ≤ b) (h1 : b < 256) (w : World) (g : GW a w) :
    Calls Tryd.prog 15 #[.agg #[.int .u64 0, .int .u64 (lo), .pointer (some a), .int .u8 (b)]] w fun e w' => e = .returned (.int .i64 (b - 1)) ∧ Below w.heap.size w w' := by
  have q1 := g.z4
  have q2 := g.z0
  have q6 := g.lt
  have q3 : 0 < w.heap.size := by omega
  have q4 : 1 < w.heap.size := by omega
  have q5 : 2 < w.heap.size := by omega
  clear q6
  have hh29 := held29
  have hg29 := guard29
  have he1 := eqSame a
  have he2 := eqNil a
  go_enter Tryd.func15, Tryd.ntmps15
  go_wp2
  go_ret
  exact ⟨rfl, (Below.refl _ _).alloc (Nat.le_refl _) _⟩
set_option maxRecDepth 100000 in
theorem paddr_any (a : Addr) (lo b : Int) (w : World) (g : GW a w) :
    Calls Tryd.prog 13 #[.agg #[.int .u64 0, .int .u64 (lo), .pointer (some a), .int .u8 (b)]] w fun e w' => e = .returned (.agg #[.int .u64 0, .int .u64 (lo), .pointer (some a)]) ∧ Below w.heap.size w w' := by
  have q1 := g.z4
  have q2 := g.z0
  have q6 := g.lt
  have q3 : 0 < w.heap.size := by omega
  have q4 : 1 < w.heap.size := by omega
  have q5 : 2 < w.heap.size := by omega
  clear q6
  have hh29 := held29
  have hg29 := guard29
  have he1 := eqSame a
  have he2 := eqNil a
  go_enter Tryd.func13, Tryd.ntmps13
  go_wp2
  refine bodyPost_ret (v := .agg #[.int .u64 0, .int .u64 (lo), .pointer (some a)]) (by simp [results, Tryd.results13, go_sem]) rfl ⟨rfl, ?_⟩
  repeat' (first | exact Below.refl _ _ | (refine Below.setCell ?_ (by simp) _) | (refine Below.alloc ?_ (by simp) _))
end Go.Proofs.Qxb6618999aDoor
