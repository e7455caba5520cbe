import Derived.Test.Qxb6618999aDoorWB
import Derived.WalkKit
import Derived.WalkSpells
import Derived.WalkLawsBesides
import Derived.Laws.NewBlocks
import Derived.Laws.Bits64b
import Derived.Laws.Shifts
import Derived.BigQuiet
import Derived.Below
import Derived.Deep.RegionWith
import Derived.Test.Qxb6618999aDoorBox
namespace Go.Proofs.Qxb6618999aDoor
open Go Go.RowKit
set_option linter.unusedVariables false
set_option linter.unusedSimpArgs false
set_option maxHeartbeats 8000000 in
set_option maxRecDepth 100000 in
theorem and0_any (l1 l2 r : Int) (hr : bits .and .u64 l1 l2 = r) (w : World) :
    Calls Tryd.prog 33 #[.agg #[.int .u64 0, .int .u64 l1], .agg #[.int .u64 18446744073709551615, .int .u64 l2]] w fun e w' => e = .returned (.agg #[.int .u64 0, .int .u64 r]) ∧ Below w.heap.size w w' := by
  go_enter Tryd.func33, Tryd.ntmps33
  have hz : bits .and .u64 0 18446744073709551615 = 0 := by decide
  go_wp2
  refine bodyPost_ret (v := .agg #[.int .u64 0, .int .u64 r]) (by simp [results, Tryd.results33, go_sem, sc_same, *]) rfl ⟨rfl, ?_⟩
  repeat' (first | exact Below.refl _ _ | assumption | (refine Below.drewN' ?_ _) | (refine Below.drew ?_) | (refine Below.setCell ?_ (by first | omega | (simp <;> omega)) _) | (refine Below.alloc ?_ (by first | omega | (simp <;> omega)) _))

set_option maxHeartbeats 8000000 in
set_option maxRecDepth 100000 in
theorem prefix_any (a : Addr) (lo L n : Int) (h0 : 0 ≤ n) (h1 : n ≤ 32) (hL : bits .and .u64 lo (18446744073709551615 * 2 ^ (128 - (n + 96)).toNat % 18446744073709551616) = L) (w : World) (g : GW a w) :
    Calls Tryd.prog 25 #[.agg #[.int .u64 0, .int .u64 (lo), .pointer (some a)], .int .i64 n] w fun e w' => e = .returned (.tuple #[.agg #[.int .u64 0, .int .u64 (L), .pointer (some a), .int .u8 (n + 1)], .nilIface]) ∧ Below w.heap.size w w' := by
  have q1 := g.z4
  have q2 := g.z0
  have q6 := g.lt
  have q3 : 0 < w.heap.size := by omega
  have q4 : 1 < w.heap.size := by omega
  have q5 : 2 < w.heap.size := by omega
  clear q6
  have hh29 := held29
  have hg29 := guard29
  have he1 := eqSame a
  have he2 := eqNil a
  have B0 : Bx (Box ((w.alloc (.cells #[.int .u64 0, .int .u64 (lo), .pointer (some a)] 31)).alloc (.cells #[.int .u64 0, .int .u64 0, .pointer none, .int .u8 0] 43)) (w.heap.size) [.int .u64 0, .int .u64 (lo), .pointer (some a)]) := ⟨(Box.new w #[.int .u64 0, .int .u64 (lo), .pointer (some a)] 31).alloc _⟩
  have B1 : Bx (Box ((w.alloc (.cells #[.int .u64 0, .int .u64 (lo), .pointer (some a)] 31)).alloc (.cells #[.int .u64 0, .int .u64 0, .pointer none, .int .u8 0] 43)) (w.heap.size + 1) [.int .u64 0, .int .u64 0, .pointer none, .int .u8 0]) := ⟨by have := Box.new (w.alloc (.cells #[.int .u64 0, .int .u64 (lo), .pointer (some a)] 31)) #[.int .u64 0, .int .u64 0, .pointer none, .int .u8 0] 43; simpa using this⟩
  have g0 : Bx (GW a ((w.alloc (.cells #[.int .u64 0, .int .u64 (lo), .pointer (some a)] 31)).alloc (.cells #[.int .u64 0, .int .u64 0, .pointer none, .int .u8 0] 43))) := ⟨g.below (by repeat' (first | exact Below.refl _ _ | assumption | (refine Below.drewN' ?_ _) | (refine Below.drew ?_) | (refine Below.setCell ?_ (by first | omega | (simp <;> omega)) _) | (refine Below.alloc ?_ (by first | omega | (simp <;> omega)) _)))⟩
  have bw0 : Bx (Below w.heap.size w ((w.alloc (.cells #[.int .u64 0, .int .u64 (lo), .pointer (some a)] 31)).alloc (.cells #[.int .u64 0, .int .u64 0, .pointer none, .int .u8 0] 43))) := ⟨by repeat' (first | exact Below.refl _ _ | assumption | (refine Below.drewN' ?_ _) | (refine Below.drew ?_) | (refine Below.setCell ?_ (by first | omega | (simp <;> omega)) _) | (refine Below.alloc ?_ (by first | omega | (simp <;> omega)) _))⟩
  go_enter Tryd.func25, Tryd.ntmps25
  go_wp2
  generalize (w.alloc (.cells #[.int .u64 0, .int .u64 (lo), .pointer (some a)] 31)).alloc (.cells #[.int .u64 0, .int .u64 0, .pointer none, .int .u8 0] 43) = W0 at *
  have c0 : W0.cell? ⟨w.heap.size, 0, none⟩ = some (.int .u64 0) := B0.out.cell 0 (by simp)
  have cf0 : W0.frozen? ⟨w.heap.size, 0, none⟩ = false := B0.out.free 0 (by simp)
  have c1 : W0.cell? ⟨w.heap.size, 1, none⟩ = some (.int .u64 (lo)) := B0.out.cell 1 (by simp)
  have cf1 : W0.frozen? ⟨w.heap.size, 1, none⟩ = false := B0.out.free 1 (by simp)
  have c2 : W0.cell? ⟨w.heap.size, 2, none⟩ = some (.pointer (some a)) := B0.out.cell 2 (by simp)
  have cf2 : W0.frozen? ⟨w.heap.size, 2, none⟩ = false := B0.out.free 2 (by simp)
  have d0 : W0.cell? ⟨w.heap.size + 1, 0, none⟩ = some (.int .u64 0) := B1.out.cell 0 (by simp)
  have df0 : W0.frozen? ⟨w.heap.size + 1, 0, none⟩ = false := B1.out.free 0 (by simp)
  have d1 : W0.cell? ⟨w.heap.size + 1, 1, none⟩ = some (.int .u64 0) := B1.out.cell 1 (by simp)
  have df1 : W0.frozen? ⟨w.heap.size + 1, 1, none⟩ = false := B1.out.free 1 (by simp)
  have d2 : W0.cell? ⟨w.heap.size + 1, 2, none⟩ = some (.pointer none) := B1.out.cell 2 (by simp)
  have df2 : W0.frozen? ⟨w.heap.size + 1, 2, none⟩ = false := B1.out.free 2 (by simp)
  have d3 : W0.cell? ⟨w.heap.size + 1, 3, none⟩ = some (.int .u8 0) := B1.out.cell 3 (by simp)
  have df3 : W0.frozen? ⟨w.heap.size + 1, 3, none⟩ = false := B1.out.free 3 (by simp)
  go_region_with (first | (go_at_call 34; refine (mask6_any _ (by omega) (by omega) _).mono ?_; rintro e w1 ⟨rfl, hb⟩; have B0a : Bx (Box w1 (w.heap.size) [.int .u64 0, .int .u64 (lo), .pointer (some a)]) := ⟨Box.after hb (Box.of_heap B0.out rfl)⟩; have B1a : Bx (Box w1 (w.heap.size + 1) [.int .u64 0, .int .u64 0, .pointer none, .int .u8 0]) := ⟨Box.after hb (Box.of_heap B1.out rfl)⟩; have ga : Bx (GW a w1) := ⟨GW.after hb (GW.of_heap g0.out rfl)⟩; have bwa : Bx (Below w.heap.size w w1) := ⟨Below.trans (by have := bw0.out; repeat' (first | exact Below.refl _ _ | assumption | (refine Below.drewN' ?_ _) | (refine Below.drew ?_) | (refine Below.setCell ?_ (by first | omega | (simp <;> omega)) _) | (refine Below.alloc ?_ (by first | omega | (simp <;> omega)) _))) (hb.mono (Nat.le_of_lt (Box.of_heap B0.out rfl).lt))⟩; clear hb; have ca0 : w1.cell? ⟨w.heap.size, 0, none⟩ = some (.int .u64 0) := B0a.out.cell 0 (by simp); have caf0 : w1.frozen? ⟨w.heap.size, 0, none⟩ = false := B0a.out.free 0 (by simp); have ca1 : w1.cell? ⟨w.heap.size, 1, none⟩ = some (.int .u64 (lo)) := B0a.out.cell 1 (by simp); have caf1 : w1.frozen? ⟨w.heap.size, 1, none⟩ = false := B0a.out.free 1 (by simp); have ca2 : w1.cell? ⟨w.heap.size, 2, none⟩ = some (.pointer (some a)) := B0a.out.cell 2 (by simp); have caf2 : w1.frozen? ⟨w.heap.size, 2, none⟩ = false := B0a.out.free 2 (by simp); have da0 : w1.cell? ⟨w.heap.size + 1, 0, none⟩ = some (.int .u64 0) := B1a.out.cell 0 (by simp); have daf0 : w1.frozen? ⟨w.heap.size + 1, 0, none⟩ = false := B1a.out.free 0 (by simp); have da1 : w1.cell? ⟨w.heap.size + 1, 1, none⟩ = some (.int .u64 0) := B1a.out.cell 1 (by simp); have daf1 : w1.frozen? ⟨w.heap.size + 1, 1, none⟩ = false := B1a.out.free 1 (by simp); have da2 : w1.cell? ⟨w.heap.size + 1, 2, none⟩ = some (.pointer none) := B1a.out.cell 2 (by simp); have daf2 : w1.frozen? ⟨w.heap.size + 1, 2, none⟩ = false := B1a.out.free 2 (by simp); have da3 : w1.cell? ⟨w.heap.size + 1, 3, none⟩ = some (.int .u8 0) := B1a.out.cell 3 (by simp); have daf3 : w1.frozen? ⟨w.heap.size + 1, 3, none⟩ = false := B1a.out.free 3 (by simp)) | (go_at_call 33; refine (and0_any _ _ L hL _).mono ?_; rintro e w2 ⟨rfl, hb⟩; have B0b : Bx (Box w2 (w.heap.size) [.int .u64 0, .int .u64 (lo), .pointer (some a)]) := ⟨Box.after hb (Box.of_heap B0a.out rfl)⟩; have B1b : Bx (Box w2 (w.heap.size + 1) [.int .u64 0, .int .u64 0, .pointer none, .int .u8 0]) := ⟨Box.after hb (Box.of_heap B1a.out rfl)⟩; have gb : Bx (GW a w2) := ⟨GW.after hb (GW.of_heap ga.out rfl)⟩; have bwb : Bx (Below w.heap.size w w2) := ⟨Below.trans (by have := bwa.out; repeat' (first | exact Below.refl _ _ | assumption | (refine Below.drewN' ?_ _) | (refine Below.drew ?_) | (refine Below.setCell ?_ (by first | omega | (simp <;> omega)) _) | (refine Below.alloc ?_ (by first | omega | (simp <;> omega)) _))) (hb.mono (Nat.le_of_lt (Box.of_heap B0a.out rfl).lt))⟩; clear hb; have cb0 : w2.cell? ⟨w.heap.size, 0, none⟩ = some (.int .u64 0) := B0b.out.cell 0 (by simp); have cbf0 : w2.frozen? ⟨w.heap.size, 0, none⟩ = false := B0b.out.free 0 (by simp); have cb1 : w2.cell? ⟨w.heap.size, 1, none⟩ = some (.int .u64 (lo)) := B0b.out.cell 1 (by simp); have cbf1 : w2.frozen? ⟨w.heap.size, 1, none⟩ = false := B0b.out.free 1 (by simp); have cb2 : w2.cell? ⟨w.heap.size, 2, none⟩ = some (.pointer (some a)) := B0b.out.cell 2 (by simp); have cbf2 : w2.frozen? ⟨w.heap.size, 2, none⟩ = false := B0b.out.free 2 (by simp); have db0 : w2.cell? ⟨w.heap.size + 1, 0, none⟩ = some (.int .u64 0) := B1b.out.cell 0 (by simp); have dbf0 : w2.frozen? ⟨w.heap.size + 1, 0, none⟩ = false := B1b.out.free 0 (by simp); have db1 : w2.cell? ⟨w.heap.size + 1, 1, none⟩ = some (.int .u64 0) := B1b.out.cell 1 (by simp); have dbf1 : w2.frozen? ⟨w.heap.size + 1, 1, none⟩ = false := B1b.out.free 1 (by simp); have db2 : w2.cell? ⟨w.heap.size + 1, 2, none⟩ = some (.pointer none) := B1b.out.cell 2 (by simp); have dbf2 : w2.frozen? ⟨w.heap.size + 1, 2, none⟩ = false := B1b.out.free 2 (by simp); have db3 : w2.cell? ⟨w.heap.size + 1, 3, none⟩ = some (.int .u8 0) := B1b.out.cell 3 (by simp); have dbf3 : w2.frozen? ⟨w.heap.size + 1, 3, none⟩ = false := B1b.out.free 3 (by simp)))
  all_goals (
    go_wp2_with fail
    refine (pfrom_any a L n h0 h1 _ (g.below (by have := bwb.out; repeat' (first | exact Below.refl _ _ | assumption | (refine Below.drewN' ?_ _) | (refine Below.drew ?_) | (refine Below.setCell ?_ (by first | omega | (simp <;> omega)) _) | (refine Below.alloc ?_ (by first | omega | (simp <;> omega)) _))))).mono ?_
    rintro e w3 ⟨rfl, hb⟩
    have B1c : Bx (Box w3 (w.heap.size + 1) [.int .u64 0, .int .u64 0, .pointer none, .int .u8 0]) := ⟨Box.after hb (by repeat' (first | exact B1b.out | (refine Box.setCell ?_ _ _ (by simp)) | (refine Box.drew ?_) | (refine Box.drewN ?_ _)))⟩
    have bwc : Below w.heap.size w w3 := Below.trans (by have := bwb.out; repeat' (first | exact Below.refl _ _ | assumption | (refine Below.drewN' ?_ _) | (refine Below.drew ?_) | (refine Below.setCell ?_ (by first | omega | (simp <;> omega)) _) | (refine Below.alloc ?_ (by first | omega | (simp <;> omega)) _))) (hb.mono (Nat.le_of_lt (show w.heap.size < _ from (by have := B0b.out.lt; simp; omega))))
    clear hb
    have x0 : w3.cell? ⟨w.heap.size + 1, 0, none⟩ = some (.int .u64 0) := B1c.out.cell 0 (by simp)
    have xf0 : w3.frozen? ⟨w.heap.size + 1, 0, none⟩ = false := B1c.out.free 0 (by simp)
    have x1 : w3.cell? ⟨w.heap.size + 1, 1, none⟩ = some (.int .u64 0) := B1c.out.cell 1 (by simp)
    have xf1 : w3.frozen? ⟨w.heap.size + 1, 1, none⟩ = false := B1c.out.free 1 (by simp)
    have x2 : w3.cell? ⟨w.heap.size + 1, 2, none⟩ = some (.pointer none) := B1c.out.cell 2 (by simp)
    have xf2 : w3.frozen? ⟨w.heap.size + 1, 2, none⟩ = false := B1c.out.free 2 (by simp)
    have x3 : w3.cell? ⟨w.heap.size + 1, 3, none⟩ = some (.int .u8 0) := B1c.out.cell 3 (by simp)
    have xf3 : w3.frozen? ⟨w.heap.size + 1, 3, none⟩ = false := B1c.out.free 3 (by simp)
    go_wp2
    refine bodyPost_ret (v := .tuple #[.agg #[.int .u64 0, .int .u64 (L), .pointer (some a), .int .u8 (n + 1)], .nilIface]) (by simp [results, Tryd.results25, go_sem, sc_same, *]) rfl ⟨rfl, ?_⟩
    repeat' (first | exact Below.refl _ _ | assumption | (refine Below.drewN' ?_ _) | (refine Below.drew ?_) | (refine Below.setCell ?_ (by first | omega | (simp <;> omega)) _) | (refine Below.alloc ?_ (by first | omega | (simp <;> omega)) _))
    )

end Go.Proofs.Qxb6618999aDoor
