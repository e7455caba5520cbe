import Derived.Test.Qxb6618999aDoorWB
import Derived.WalkKit
import Derived.WalkSpells
import Derived.WalkLawsBesides
import Derived.Laws.NewBlocks
import Derived.Laws.Bits64b
import Derived.Laws.Shifts
import Derived.BigQuiet
import Derived.Below
import Derived.Test.Qxb6618999aDoorPlain
namespace Go.Proofs.Qxb6618999aDoor
open Go Go.RowKit
set_option linter.unusedVariables false
theorem Below.drewN' {B : Nat} {a w : World} (h : Below B a w) (n : Nat) : Below B a (w.drewN n) := ⟨h.os, h.tape, h.output, h.size, h.block⟩
set_option maxRecDepth 100000 in
theorem af4_any (a : Addr) (b0 b1 b2 b3 : Int) (hb0 : 0 ≤ b0) (kb0 : b0 < 256) (hb1 : 0 ≤ b1) (kb1 : b1 < 256) (hb2 : 0 ≤ b2) (kb2 : b2 < 256) (hb3 : 0 ≤ b3) (kb3 : b3 < 256) (w : World) (g : GW a w) :
    Calls Tryd.prog 10 #[.agg #[.int .u8 b0, .int .u8 b1, .int .u8 b2, .int .u8 b3]] w fun e w' => e = .returned (.agg #[.int .u64 0, .int .u64 (281470681743360 + be b0 b1 b2 b3), .pointer (some a)]) ∧ Below w.heap.size w w' := by
  have q1 := g.z4
  have q2 := g.z0
  have q6 := g.lt
  have q3 : 0 < w.heap.size := by omega
  have q4 : 1 < w.heap.size := by omega
  have q5 : 2 < w.heap.size := by omega
  clear q6
  have hh29 := held29
  have hg29 := guard29
  have he1 := eqSame a
  have he2 := eqNil a
  go_enter Tryd.func10, Tryd.ntmps10
  have hbe := Bx.mk (be64 b0 b1 b2 b3 hb0 kb0 hb1 kb1 hb2 kb2 hb3 kb3)
  go_wp2
  rw [hbe.out]
  refine bodyPost_ret (v := .agg #[.int .u64 0, .int .u64 (281470681743360 + be b0 b1 b2 b3), .pointer (some a)]) (by simp [results, Tryd.results10, go_sem]) rfl ⟨rfl, ?_⟩
  repeat' (first | exact Below.refl _ _ | (refine Below.drewN' ?_ _) | (refine Below.drew ?_) | (refine Below.setCell ?_ (by simp <;> omega) _) | (refine Below.alloc ?_ (by simp <;> omega) _))

set_option maxRecDepth 100000 in
theorem be32_any (b0 b1 b2 b3 : Int) (hb0 : 0 ≤ b0) (kb0 : b0 < 256) (hb1 : 0 ≤ b1) (kb1 : b1 < 256) (hb2 : 0 ≤ b2) (kb2 : b2 < 256) (hb3 : 0 ≤ b3) (kb3 : b3 < 256) (w : World) :
    Calls Tryd.prog 7 #[.agg #[.int .u8 b0, .int .u8 b1, .int .u8 b2, .int .u8 b3]] w fun e w' => e = .returned (.int .u32 (be b0 b1 b2 b3)) ∧ Below w.heap.size w w' := by
  go_enter Tryd.func7, Tryd.ntmps7
  have hbe := Bx.mk (be32 b0 b1 b2 b3 hb0 kb0 hb1 kb1 hb2 kb2 hb3 kb3)
  go_wp2
  rw [hbe.out]
  go_ret
  exact ⟨rfl, (Below.refl _ _).alloc (Nat.le_refl _) _⟩

set_option maxRecDepth 100000 in
theorem uint32_any (bl cp : Nat) (b0 b1 b2 b3 : Int) (hb0 : 0 ≤ b0) (kb0 : b0 < 256) (hb1 : 0 ≤ b1) (kb1 : b1 < 256) (hb2 : 0 ≤ b2) (kb2 : b2 < 256) (hb3 : 0 ≤ b3) (kb3 : b3 < 256) (w : World) (c0 : w.cell? ⟨bl, 0, none⟩ = some (.int .u8 b0)) (c1 : w.cell? ⟨bl, 1, none⟩ = some (.int .u8 b1)) (c2 : w.cell? ⟨bl, 2, none⟩ = some (.int .u8 b2)) (c3 : w.cell? ⟨bl, 3, none⟩ = some (.int .u8 b3)) (hbl : bl < w.heap.size):
    Calls Tryd.prog 16 #[.agg #[], .slice (some ⟨bl, 0, none⟩) 4 cp] w fun e w' => e = .returned (.int .u32 (be b0 b1 b2 b3)) ∧ Below w.heap.size w w' := by
  go_enter Tryd.func16, Tryd.ntmps16
  have hbe := Bx.mk (be32' b0 b1 b2 b3 hb0 kb0 hb1 kb1 hb2 kb2 hb3 kb3)
  go_wp2
  go_quiet (fail)
  go_wp2
  rw [hbe.out]
  go_ret
  refine ⟨rfl, ?_⟩
  repeat' (first | exact Below.refl _ _ | (refine Below.drewN' ?_ _) | (refine Below.drew ?_) | (refine Below.setCell ?_ (by simp <;> omega) _) | (refine Below.alloc ?_ (by simp <;> omega) _))
set_option maxRecDepth 100000 in
theorem inp_pos (x p n : Int) (h0 : 0 < n) (h1 : n ≤ 32) (hx0 : 0 ≤ x) (hx1 : x < 4294967296) (hp0 : 0 ≤ p) (hp1 : p < 4294967296) (w : World) :
    Calls Tryd.prog 6 #[.int .u32 x, .int .u32 p, .int .i64 n] w fun e w' => e = .returned (.bool (inpB x p (32 - n).toNat)) ∧ Below w.heap.size w w' := by
  go_enter Tryd.func6, Tryd.ntmps6
  have hl := Bx.mk (inp_law x p (32 - n).toNat (by omega) hx0 hx1 hp0 hp1)
  go_wp2
  rw [hl.out]
  go_ret
  exact ⟨rfl, Below.refl _ _⟩
set_option maxRecDepth 100000 in
theorem inp_zero (x p : Int) (hx0 : 0 ≤ x) (hx1 : x < 4294967296) (hp0 : 0 ≤ p) (hp1 : p < 4294967296) (w : World) :
    Calls Tryd.prog 6 #[.int .u32 x, .int .u32 p, .int .i64 0] w fun e w' => e = .returned (.bool (inpB x p 32)) ∧ Below w.heap.size w w' := by
  go_enter Tryd.func6, Tryd.ntmps6
  have hl := Bx.mk (inp_law x p 32 (by omega) hx0 hx1 hp0 hp1)
  go_wp2
  go_ret
  refine ⟨?_, Below.refl _ _⟩
  rw [← hl.out]
  rfl
set_option maxRecDepth 100000 in
theorem mask6_any (n : Int) (h0 : 96 ≤ n) (h1 : n ≤ 128) (w : World) :
    Calls Tryd.prog 34 #[.int .i64 n] w fun e w' => e = .returned (.agg #[.int .u64 18446744073709551615, .int .u64 (18446744073709551615 * 2 ^ (128 - n).toNat % 18446744073709551616)]) ∧ Below w.heap.size w w' := by
  go_enter Tryd.func34, Tryd.ntmps34
  have hs : ∀ W : World, (Op.shift .shr .u64 18446744073709551615 .i64 n).run Tryd.prog W = .ok (.int .u64 0) W := fun W => by
    rw [shift_shr_any _ _ _ _ (by omega), show min n.toNat IntKind.u64.bits = 64 from by show min n.toNat 64 = 64; omega]
    rfl
  go_wp2
  go_region
  all_goals go_wp2
  all_goals (refine bodyPost_ret (v := .agg #[.int .u64 18446744073709551615, .int .u64 (18446744073709551615 * 2 ^ (128 - n).toNat % 18446744073709551616)]) (by simp [results, Tryd.results34, go_sem]; exact ⟨by decide, by rw [IntKind.wrap_u64]⟩) rfl ⟨rfl, ?_⟩)
  all_goals (repeat' (first | exact Below.refl _ _ | (refine Below.drewN' ?_ _) | (refine Below.drew ?_) | (refine Below.setCell ?_ (by simp <;> omega) _) | (refine Below.alloc ?_ (by simp <;> omega) _)))
set_option maxRecDepth 100000 in
theorem and_any (h1 l1 h2 l2 : Int) (w : World) :
    Calls Tryd.prog 33 #[.agg #[.int .u64 h1, .int .u64 l1], .agg #[.int .u64 h2, .int .u64 l2]] w fun e w' => e = .returned (.agg #[.int .u64 (bits .and .u64 h1 h2), .int .u64 (bits .and .u64 l1 l2)]) ∧ Below w.heap.size w w' := by
  go_enter Tryd.func33, Tryd.ntmps33
  go_wp2
  refine bodyPost_ret (v := .agg #[.int .u64 (bits .and .u64 h1 h2), .int .u64 (bits .and .u64 l1 l2)]) (by simp [results, Tryd.results33, go_sem]) rfl ⟨rfl, ?_⟩
  repeat' (first | exact Below.refl _ _ | (refine Below.drewN' ?_ _) | (refine Below.drew ?_) | (refine Below.setCell ?_ (by simp <;> omega) _) | (refine Below.alloc ?_ (by simp <;> omega) _))

end Go.Proofs.Qxb6618999aDoor
