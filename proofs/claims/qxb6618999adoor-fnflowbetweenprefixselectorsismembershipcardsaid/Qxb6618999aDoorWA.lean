import Derived.Test.Qxb6618999aDoorProg
import Derived.WalkKit
import Derived.Below
import Derived.LaidEqlPtr
namespace Go.Proofs.Qxb6618999aDoor
open Go Go.RowKit
structure Bx (p : Prop) : Prop where
  out : p
structure GW (a : Addr) (w : World) : Prop where
  z4 : w.cell? ⟨1, 0, none⟩ = some (.pointer (some a))
  z0 : w.cell? ⟨2, 0, none⟩ = some (.pointer none)
  lt : 6 < w.heap.size
theorem GW.below {a : Addr} {w w' : World} (h : GW a w) (hb : Below w.heap.size w w') : GW a w' := by
  have hl := h.lt
  exact ⟨(hb.cell (by show 1 < _; omega)).trans h.z4, (hb.cell (by show 2 < _; omega)).trans h.z0, Nat.lt_of_lt_of_le hl hb.size⟩
theorem eqSame (a : Addr) (w : World) : (Op.equalIn 9999 27 (.pointer (some a)) (.pointer (some a))).run Tryd.prog w = .ok true w := by
  have h79 : (Tryd.prog.info? 79).isSome = true := by kernel_rfl
  obtain ⟨i, hi⟩ := Option.isSome_iff_exists.mp h79
  have h : ∀ d : Nat, (Op.equalIn (d + 1) 27 (.pointer (some a)) (.pointer (some a))).run Tryd.prog w = .ok true w := fun d => by
    simp [Op.equalIn, run_underlying Tryd.underlying27, sizeOf, typeInfo, hi, run_sameAddr_same]
  exact h 9998
theorem eqNil (a : Addr) (w : World) : (Op.equalIn 9999 27 (.pointer (some a)) (.pointer none)).run Tryd.prog w = .ok false w := by
  have h : ∀ d : Nat, (Op.equalIn (d + 1) 27 (.pointer (some a)) (.pointer none)).run Tryd.prog w = .ok false w := fun d => by
    simp [Op.equalIn, run_underlying Tryd.underlying27]
  exact h 9998
end Go.Proofs.Qxb6618999aDoor
