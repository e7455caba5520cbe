import Derived.Test.Qxb6618999aDoorWB
import Derived.WalkKit
import Derived.WalkSpells
import Derived.WalkLawsBesides
import Derived.Laws.NewBlocks
import Derived.Laws.Bits64b
import Derived.Laws.Shifts
import Derived.BigQuiet
import Derived.Below
import Derived.Deep.RegionWith
import Derived.Deep.DeepCutAuto
import Derived.Test.Qxb6618999aDoorBoxb
import Derived.Test.Qxb6618999aDoorWH
namespace Go.Proofs.Qxb6618999aDoor
open Go Go.RowKit
set_option linter.unusedVariables false
set_option linter.unusedSimpArgs false
theorem cmp_ge (a : Addr) (x y : Int) (h : y ≤ x) (w : World) (g : GW a w) :
    Calls Tryd.prog 30 #[.agg #[.int .u64 0, .int .u64 (x), .pointer (some a)], .agg #[.int .u64 0, .int .u64 (y), .pointer (some a)]] w fun e w' => ∃ r : Int, e = .returned (.int .i64 r) ∧ 0 ≤ r ∧ r ≤ 1 ∧ Below w.heap.size w w' := by
  rcases Int.lt_or_eq_of_le h with h1 | h1
  · exact (cmp_gt a x y h1 w g).mono fun e w' ⟨h2, h3⟩ => ⟨1, h2, by omega, by omega, h3⟩
  · subst h1
    exact (cmp_eq a y w g).mono fun e w' ⟨h2, h3⟩ => ⟨0, h2, by omega, by omega, h3⟩
theorem cmp_le (a : Addr) (x y : Int) (h : x ≤ y) (w : World) (g : GW a w) :
    Calls Tryd.prog 30 #[.agg #[.int .u64 0, .int .u64 (x), .pointer (some a)], .agg #[.int .u64 0, .int .u64 (y), .pointer (some a)]] w fun e w' => ∃ r : Int, e = .returned (.int .i64 r) ∧ -1 ≤ r ∧ r ≤ 0 ∧ Below w.heap.size w w' := by
  rcases Int.lt_or_eq_of_le h with h1 | h1
  · exact (cmp_lt a x y h1 w g).mono fun e w' ⟨h2, h3⟩ => ⟨-1, h2, by omega, by omega, h3⟩
  · subst h1
    exact (cmp_eq a x w g).mono fun e w' ⟨h2, h3⟩ => ⟨0, h2, by omega, by omega, h3⟩
set_option maxHeartbeats 8000000 in
set_option maxRecDepth 100000 in
theorem carr_lo (a : Addr) (s t x pr po : Int) (pd : Bool) (h1 : x < s) (w : World) (g : GW a w) :
    Calls Tryd.prog 23 #[.agg #[.int .u64 0, .int .u64 (s), .pointer (some a), .int .u64 0, .int .u64 (t), .pointer (some a), .int .u8 0, .int .u16 0, .int .u16 65535], .agg #[.int .u64 0, .int .u64 (x), .pointer (some a)], .int .u8 pr, .int .u16 po, .bool pd] w fun e w' => e = .returned (.bool false) ∧ Below w.heap.size w w' := by
  have q1 := g.z4
  have q2 := g.z0
  have q6 := g.lt
  have q3 : 0 < w.heap.size := by omega
  have q4 : 1 < w.heap.size := by omega
  have q5 : 2 < w.heap.size := by omega
  clear q6
  have hh29 := held29
  have hg29 := guard29
  have he1 := eqSame a
  have he2 := eqNil a
  have B0 : Bx (Box ((w.alloc (.cells #[.int .u64 0, .int .u64 (s), .pointer (some a), .int .u64 0, .int .u64 (t), .pointer (some a), .int .u8 0, .int .u16 0, .int .u16 65535] 33)).alloc (.cells #[.int .u64 0, .int .u64 (x), .pointer (some a)] 31)) (w.heap.size) [.int .u64 0, .int .u64 (s), .pointer (some a), .int .u64 0, .int .u64 (t), .pointer (some a), .int .u8 0, .int .u16 0, .int .u16 65535]) := ⟨(Box.new w #[.int .u64 0, .int .u64 (s), .pointer (some a), .int .u64 0, .int .u64 (t), .pointer (some a), .int .u8 0, .int .u16 0, .int .u16 65535] 33).alloc _⟩
  have B1 : Bx (Box ((w.alloc (.cells #[.int .u64 0, .int .u64 (s), .pointer (some a), .int .u64 0, .int .u64 (t), .pointer (some a), .int .u8 0, .int .u16 0, .int .u16 65535] 33)).alloc (.cells #[.int .u64 0, .int .u64 (x), .pointer (some a)] 31)) (w.heap.size + 1) [.int .u64 0, .int .u64 (x), .pointer (some a)]) := ⟨by have := Box.new (w.alloc (.cells #[.int .u64 0, .int .u64 (s), .pointer (some a), .int .u64 0, .int .u64 (t), .pointer (some a), .int .u8 0, .int .u16 0, .int .u16 65535] 33)) #[.int .u64 0, .int .u64 (x), .pointer (some a)] 31; simpa using this⟩
  have g0 : Bx (GW a ((w.alloc (.cells #[.int .u64 0, .int .u64 (s), .pointer (some a), .int .u64 0, .int .u64 (t), .pointer (some a), .int .u8 0, .int .u16 0, .int .u16 65535] 33)).alloc (.cells #[.int .u64 0, .int .u64 (x), .pointer (some a)] 31))) := ⟨(g.alloc _).alloc _⟩
  have bw0 : Bx (Below w.heap.size w ((w.alloc (.cells #[.int .u64 0, .int .u64 (s), .pointer (some a), .int .u64 0, .int .u64 (t), .pointer (some a), .int .u8 0, .int .u16 0, .int .u16 65535] 33)).alloc (.cells #[.int .u64 0, .int .u64 (x), .pointer (some a)] 31))) := ⟨by repeat' (first | (with_reducible exact Below.refl _ _) | (with_reducible assumption) | (with_reducible refine Below.drewN' ?_ _) | (with_reducible refine Below.drew ?_) | (with_reducible refine Below.setCell ?_ ?_ _) | (with_reducible refine Below.alloc ?_ ?_ _) | omega | (simp <;> omega))⟩
  go_enter Tryd.func23, Tryd.ntmps23
  go_wp2_with fail
  generalize (w.alloc (.cells #[.int .u64 0, .int .u64 (s), .pointer (some a), .int .u64 0, .int .u64 (t), .pointer (some a), .int .u8 0, .int .u16 0, .int .u16 65535] 33)).alloc (.cells #[.int .u64 0, .int .u64 (x), .pointer (some a)] 31) = W0 at *
  clear q1 q2 q3 q4 q5 hh29 hg29 he1 he2
  have lt1 : w.heap.size + 1 < W0.heap.size := B1.out.lt
  refine (cmp_lt a x s h1 _ g0.out).mono ?_
  rintro e wa ⟨rfl, hb⟩
  have bwa : Bx (Below w.heap.size w wa) := ⟨Below.trans (by have := bw0.out; repeat' (first | (with_reducible exact Below.refl _ _) | (with_reducible assumption) | (with_reducible refine Below.drewN' ?_ _) | (with_reducible refine Below.drew ?_) | (with_reducible refine Below.setCell ?_ ?_ _) | (with_reducible refine Below.alloc ?_ ?_ _) | omega | (simp <;> omega))) (hb.mono (by have := B0.out.lt; first | omega | (simp <;> omega)))⟩
  clear hb B0 B1 g0 bw0
  go_wp2
  go_ret
  exact ⟨rfl, bwa.out⟩

set_option maxHeartbeats 8000000 in
set_option maxRecDepth 100000 in
theorem carr_hi (a : Addr) (s t x pr po : Int) (pd : Bool) (h1 : s ≤ x) (h2 : t < x) (w : World) (g : GW a w) :
    Calls Tryd.prog 23 #[.agg #[.int .u64 0, .int .u64 (s), .pointer (some a), .int .u64 0, .int .u64 (t), .pointer (some a), .int .u8 0, .int .u16 0, .int .u16 65535], .agg #[.int .u64 0, .int .u64 (x), .pointer (some a)], .int .u8 pr, .int .u16 po, .bool pd] w fun e w' => e = .returned (.bool false) ∧ Below w.heap.size w w' := by
  have q1 := g.z4
  have q2 := g.z0
  have q6 := g.lt
  have q3 : 0 < w.heap.size := by omega
  have q4 : 1 < w.heap.size := by omega
  have q5 : 2 < w.heap.size := by omega
  clear q6
  have hh29 := held29
  have hg29 := guard29
  have he1 := eqSame a
  have he2 := eqNil a
  have B0 : Bx (Box ((w.alloc (.cells #[.int .u64 0, .int .u64 (s), .pointer (some a), .int .u64 0, .int .u64 (t), .pointer (some a), .int .u8 0, .int .u16 0, .int .u16 65535] 33)).alloc (.cells #[.int .u64 0, .int .u64 (x), .pointer (some a)] 31)) (w.heap.size) [.int .u64 0, .int .u64 (s), .pointer (some a), .int .u64 0, .int .u64 (t), .pointer (some a), .int .u8 0, .int .u16 0, .int .u16 65535]) := ⟨(Box.new w #[.int .u64 0, .int .u64 (s), .pointer (some a), .int .u64 0, .int .u64 (t), .pointer (some a), .int .u8 0, .int .u16 0, .int .u16 65535] 33).alloc _⟩
  have B1 : Bx (Box ((w.alloc (.cells #[.int .u64 0, .int .u64 (s), .pointer (some a), .int .u64 0, .int .u64 (t), .pointer (some a), .int .u8 0, .int .u16 0, .int .u16 65535] 33)).alloc (.cells #[.int .u64 0, .int .u64 (x), .pointer (some a)] 31)) (w.heap.size + 1) [.int .u64 0, .int .u64 (x), .pointer (some a)]) := ⟨by have := Box.new (w.alloc (.cells #[.int .u64 0, .int .u64 (s), .pointer (some a), .int .u64 0, .int .u64 (t), .pointer (some a), .int .u8 0, .int .u16 0, .int .u16 65535] 33)) #[.int .u64 0, .int .u64 (x), .pointer (some a)] 31; simpa using this⟩
  have g0 : Bx (GW a ((w.alloc (.cells #[.int .u64 0, .int .u64 (s), .pointer (some a), .int .u64 0, .int .u64 (t), .pointer (some a), .int .u8 0, .int .u16 0, .int .u16 65535] 33)).alloc (.cells #[.int .u64 0, .int .u64 (x), .pointer (some a)] 31))) := ⟨(g.alloc _).alloc _⟩
  have bw0 : Bx (Below w.heap.size w ((w.alloc (.cells #[.int .u64 0, .int .u64 (s), .pointer (some a), .int .u64 0, .int .u64 (t), .pointer (some a), .int .u8 0, .int .u16 0, .int .u16 65535] 33)).alloc (.cells #[.int .u64 0, .int .u64 (x), .pointer (some a)] 31))) := ⟨by repeat' (first | (with_reducible exact Below.refl _ _) | (with_reducible assumption) | (with_reducible refine Below.drewN' ?_ _) | (with_reducible refine Below.drew ?_) | (with_reducible refine Below.setCell ?_ ?_ _) | (with_reducible refine Below.alloc ?_ ?_ _) | omega | (simp <;> omega))⟩
  go_enter Tryd.func23, Tryd.ntmps23
  go_wp2_with fail
  generalize (w.alloc (.cells #[.int .u64 0, .int .u64 (s), .pointer (some a), .int .u64 0, .int .u64 (t), .pointer (some a), .int .u8 0, .int .u16 0, .int .u16 65535] 33)).alloc (.cells #[.int .u64 0, .int .u64 (x), .pointer (some a)] 31) = W0 at *
  clear q1 q2 q3 q4 q5 hh29 hg29 he1 he2
  have lt1 : w.heap.size + 1 < W0.heap.size := B1.out.lt
  refine (cmp_ge a x s h1 _ g0.out).mono ?_
  rintro e wa ⟨r, rfl, hr0, hr1, hb⟩
  have bwa : Bx (Below w.heap.size w wa) := ⟨Below.trans (by have := bw0.out; repeat' (first | (with_reducible exact Below.refl _ _) | (with_reducible assumption) | (with_reducible refine Below.drewN' ?_ _) | (with_reducible refine Below.drew ?_) | (with_reducible refine Below.setCell ?_ ?_ _) | (with_reducible refine Below.alloc ?_ ?_ _) | omega | (simp <;> omega))) (hb.mono (by have := B0.out.lt; first | omega | (simp <;> omega)))⟩
  have B0a : Bx (Box wa (w.heap.size) [.int .u64 0, .int .u64 (s), .pointer (some a), .int .u64 0, .int .u64 (t), .pointer (some a), .int .u8 0, .int .u16 0, .int .u16 65535]) := ⟨Box.after hb B0.out⟩
  have B1a : Bx (Box wa (w.heap.size + 1) [.int .u64 0, .int .u64 (x), .pointer (some a)]) := ⟨Box.after hb B1.out⟩
  have ga : Bx (GW a wa) := ⟨GW.after hb g0.out⟩
  clear hb B0 B1 g0 bw0
  have c0 : wa.cell? ⟨w.heap.size, 0, none⟩ = some (.int .u64 0) := B0a.out.cell 0 (by simp)
  have c1 : wa.cell? ⟨w.heap.size, 1, none⟩ = some (.int .u64 (s)) := B0a.out.cell 1 (by simp)
  have c2 : wa.cell? ⟨w.heap.size, 2, none⟩ = some (.pointer (some a)) := B0a.out.cell 2 (by simp)
  have c3 : wa.cell? ⟨w.heap.size, 3, none⟩ = some (.int .u64 0) := B0a.out.cell 3 (by simp)
  have c4 : wa.cell? ⟨w.heap.size, 4, none⟩ = some (.int .u64 (t)) := B0a.out.cell 4 (by simp)
  have c5 : wa.cell? ⟨w.heap.size, 5, none⟩ = some (.pointer (some a)) := B0a.out.cell 5 (by simp)
  have c6 : wa.cell? ⟨w.heap.size, 6, none⟩ = some (.int .u8 0) := B0a.out.cell 6 (by simp)
  have c7 : wa.cell? ⟨w.heap.size, 7, none⟩ = some (.int .u16 0) := B0a.out.cell 7 (by simp)
  have c8 : wa.cell? ⟨w.heap.size, 8, none⟩ = some (.int .u16 65535) := B0a.out.cell 8 (by simp)
  have d0 : wa.cell? ⟨w.heap.size + 1, 0, none⟩ = some (.int .u64 0) := B1a.out.cell 0 (by simp)
  have d1 : wa.cell? ⟨w.heap.size + 1, 1, none⟩ = some (.int .u64 (x)) := B1a.out.cell 1 (by simp)
  have d2 : wa.cell? ⟨w.heap.size + 1, 2, none⟩ = some (.pointer (some a)) := B1a.out.cell 2 (by simp)
  go_wp2_with fail
  refine (cmp_gt a x t h2 _ ga.out).mono ?_
  rintro e wb ⟨rfl, hb⟩
  have bwb : Bx (Below w.heap.size w wb) := ⟨Below.trans (by have := bwa.out; repeat' (first | (with_reducible exact Below.refl _ _) | (with_reducible assumption) | (with_reducible refine Below.drewN' ?_ _) | (with_reducible refine Below.drew ?_) | (with_reducible refine Below.setCell ?_ ?_ _) | (with_reducible refine Below.alloc ?_ ?_ _) | omega | (simp <;> omega))) (hb.mono (by have := B0a.out.lt; first | omega | (simp <;> omega)))⟩
  have B0b : Bx (Box wb (w.heap.size) [.int .u64 0, .int .u64 (s), .pointer (some a), .int .u64 0, .int .u64 (t), .pointer (some a), .int .u8 0, .int .u16 0, .int .u16 65535]) := ⟨Box.after hb B0a.out⟩
  clear hb B0a B1a ga bwa c0 c1 c2 c3 c4 c5 c6 c7 c8 d0 d1 d2
  have c0 : wb.cell? ⟨w.heap.size, 0, none⟩ = some (.int .u64 0) := B0b.out.cell 0 (by simp)
  have c1 : wb.cell? ⟨w.heap.size, 1, none⟩ = some (.int .u64 (s)) := B0b.out.cell 1 (by simp)
  have c2 : wb.cell? ⟨w.heap.size, 2, none⟩ = some (.pointer (some a)) := B0b.out.cell 2 (by simp)
  have c3 : wb.cell? ⟨w.heap.size, 3, none⟩ = some (.int .u64 0) := B0b.out.cell 3 (by simp)
  have c4 : wb.cell? ⟨w.heap.size, 4, none⟩ = some (.int .u64 (t)) := B0b.out.cell 4 (by simp)
  have c5 : wb.cell? ⟨w.heap.size, 5, none⟩ = some (.pointer (some a)) := B0b.out.cell 5 (by simp)
  have c6 : wb.cell? ⟨w.heap.size, 6, none⟩ = some (.int .u8 0) := B0b.out.cell 6 (by simp)
  have c7 : wb.cell? ⟨w.heap.size, 7, none⟩ = some (.int .u16 0) := B0b.out.cell 7 (by simp)
  have c8 : wb.cell? ⟨w.heap.size, 8, none⟩ = some (.int .u16 65535) := B0b.out.cell 8 (by simp)
  go_wp2
  go_ret
  exact ⟨rfl, bwb.out⟩

set_option maxHeartbeats 8000000 in
set_option maxRecDepth 100000 in
theorem carr_in (a : Addr) (s t x pr po : Int) (pd : Bool) (h1 : s ≤ x) (h2 : x ≤ t) (w : World) (g : GW a w) :
    Calls Tryd.prog 23 #[.agg #[.int .u64 0, .int .u64 (s), .pointer (some a), .int .u64 0, .int .u64 (t), .pointer (some a), .int .u8 0, .int .u16 0, .int .u16 65535], .agg #[.int .u64 0, .int .u64 (x), .pointer (some a)], .int .u8 pr, .int .u16 po, .bool pd] w fun e w' => e = .returned (.bool true) ∧ Below w.heap.size w w' := by
  have q1 := g.z4
  have q2 := g.z0
  have q6 := g.lt
  have q3 : 0 < w.heap.size := by omega
  have q4 : 1 < w.heap.size := by omega
  have q5 : 2 < w.heap.size := by omega
  clear q6
  have hh29 := held29
  have hg29 := guard29
  have he1 := eqSame a
  have he2 := eqNil a
  have B0 : Bx (Box ((w.alloc (.cells #[.int .u64 0, .int .u64 (s), .pointer (some a), .int .u64 0, .int .u64 (t), .pointer (some a), .int .u8 0, .int .u16 0, .int .u16 65535] 33)).alloc (.cells #[.int .u64 0, .int .u64 (x), .pointer (some a)] 31)) (w.heap.size) [.int .u64 0, .int .u64 (s), .pointer (some a), .int .u64 0, .int .u64 (t), .pointer (some a), .int .u8 0, .int .u16 0, .int .u16 65535]) := ⟨(Box.new w #[.int .u64 0, .int .u64 (s), .pointer (some a), .int .u64 0, .int .u64 (t), .pointer (some a), .int .u8 0, .int .u16 0, .int .u16 65535] 33).alloc _⟩
  have B1 : Bx (Box ((w.alloc (.cells #[.int .u64 0, .int .u64 (s), .pointer (some a), .int .u64 0, .int .u64 (t), .pointer (some a), .int .u8 0, .int .u16 0, .int .u16 65535] 33)).alloc (.cells #[.int .u64 0, .int .u64 (x), .pointer (some a)] 31)) (w.heap.size + 1) [.int .u64 0, .int .u64 (x), .pointer (some a)]) := ⟨by have := Box.new (w.alloc (.cells #[.int .u64 0, .int .u64 (s), .pointer (some a), .int .u64 0, .int .u64 (t), .pointer (some a), .int .u8 0, .int .u16 0, .int .u16 65535] 33)) #[.int .u64 0, .int .u64 (x), .pointer (some a)] 31; simpa using this⟩
  have g0 : Bx (GW a ((w.alloc (.cells #[.int .u64 0, .int .u64 (s), .pointer (some a), .int .u64 0, .int .u64 (t), .pointer (some a), .int .u8 0, .int .u16 0, .int .u16 65535] 33)).alloc (.cells #[.int .u64 0, .int .u64 (x), .pointer (some a)] 31))) := ⟨(g.alloc _).alloc _⟩
  have bw0 : Bx (Below w.heap.size w ((w.alloc (.cells #[.int .u64 0, .int .u64 (s), .pointer (some a), .int .u64 0, .int .u64 (t), .pointer (some a), .int .u8 0, .int .u16 0, .int .u16 65535] 33)).alloc (.cells #[.int .u64 0, .int .u64 (x), .pointer (some a)] 31))) := ⟨by repeat' (first | (with_reducible exact Below.refl _ _) | (with_reducible assumption) | (with_reducible refine Below.drewN' ?_ _) | (with_reducible refine Below.drew ?_) | (with_reducible refine Below.setCell ?_ ?_ _) | (with_reducible refine Below.alloc ?_ ?_ _) | omega | (simp <;> omega))⟩
  go_enter Tryd.func23, Tryd.ntmps23
  go_wp2_with fail
  generalize (w.alloc (.cells #[.int .u64 0, .int .u64 (s), .pointer (some a), .int .u64 0, .int .u64 (t), .pointer (some a), .int .u8 0, .int .u16 0, .int .u16 65535] 33)).alloc (.cells #[.int .u64 0, .int .u64 (x), .pointer (some a)] 31) = W0 at *
  clear q1 q2 q3 q4 q5 hh29 hg29 he1 he2
  have lt1 : w.heap.size + 1 < W0.heap.size := B1.out.lt
  refine (cmp_ge a x s h1 _ g0.out).mono ?_
  rintro e wa ⟨r, rfl, hr0, hr1, hb⟩
  have bwa : Bx (Below w.heap.size w wa) := ⟨Below.trans (by have := bw0.out; repeat' (first | (with_reducible exact Below.refl _ _) | (with_reducible assumption) | (with_reducible refine Below.drewN' ?_ _) | (with_reducible refine Below.drew ?_) | (with_reducible refine Below.setCell ?_ ?_ _) | (with_reducible refine Below.alloc ?_ ?_ _) | omega | (simp <;> omega))) (hb.mono (by have := B0.out.lt; first | omega | (simp <;> omega)))⟩
  have B0a : Bx (Box wa (w.heap.size) [.int .u64 0, .int .u64 (s), .pointer (some a), .int .u64 0, .int .u64 (t), .pointer (some a), .int .u8 0, .int .u16 0, .int .u16 65535]) := ⟨Box.after hb B0.out⟩
  have B1a : Bx (Box wa (w.heap.size + 1) [.int .u64 0, .int .u64 (x), .pointer (some a)]) := ⟨Box.after hb B1.out⟩
  have ga : Bx (GW a wa) := ⟨GW.after hb g0.out⟩
  clear hb B0 B1 g0 bw0
  have c0 : wa.cell? ⟨w.heap.size, 0, none⟩ = some (.int .u64 0) := B0a.out.cell 0 (by simp)
  have c1 : wa.cell? ⟨w.heap.size, 1, none⟩ = some (.int .u64 (s)) := B0a.out.cell 1 (by simp)
  have c2 : wa.cell? ⟨w.heap.size, 2, none⟩ = some (.pointer (some a)) := B0a.out.cell 2 (by simp)
  have c3 : wa.cell? ⟨w.heap.size, 3, none⟩ = some (.int .u64 0) := B0a.out.cell 3 (by simp)
  have c4 : wa.cell? ⟨w.heap.size, 4, none⟩ = some (.int .u64 (t)) := B0a.out.cell 4 (by simp)
  have c5 : wa.cell? ⟨w.heap.size, 5, none⟩ = some (.pointer (some a)) := B0a.out.cell 5 (by simp)
  have c6 : wa.cell? ⟨w.heap.size, 6, none⟩ = some (.int .u8 0) := B0a.out.cell 6 (by simp)
  have c7 : wa.cell? ⟨w.heap.size, 7, none⟩ = some (.int .u16 0) := B0a.out.cell 7 (by simp)
  have c8 : wa.cell? ⟨w.heap.size, 8, none⟩ = some (.int .u16 65535) := B0a.out.cell 8 (by simp)
  have d0 : wa.cell? ⟨w.heap.size + 1, 0, none⟩ = some (.int .u64 0) := B1a.out.cell 0 (by simp)
  have d1 : wa.cell? ⟨w.heap.size + 1, 1, none⟩ = some (.int .u64 (x)) := B1a.out.cell 1 (by simp)
  have d2 : wa.cell? ⟨w.heap.size + 1, 2, none⟩ = some (.pointer (some a)) := B1a.out.cell 2 (by simp)
  go_wp2_with fail
  refine (cmp_le a x t h2 _ ga.out).mono ?_
  rintro e wb ⟨r2, rfl, hr2, hr3, hb⟩
  have bwb : Bx (Below w.heap.size w wb) := ⟨Below.trans (by have := bwa.out; repeat' (first | (with_reducible exact Below.refl _ _) | (with_reducible assumption) | (with_reducible refine Below.drewN' ?_ _) | (with_reducible refine Below.drew ?_) | (with_reducible refine Below.setCell ?_ ?_ _) | (with_reducible refine Below.alloc ?_ ?_ _) | omega | (simp <;> omega))) (hb.mono (by have := B0a.out.lt; first | omega | (simp <;> omega)))⟩
  have B0b : Bx (Box wb (w.heap.size) [.int .u64 0, .int .u64 (s), .pointer (some a), .int .u64 0, .int .u64 (t), .pointer (some a), .int .u8 0, .int .u16 0, .int .u16 65535]) := ⟨Box.after hb B0a.out⟩
  clear hb B0a B1a ga bwa c0 c1 c2 c3 c4 c5 c6 c7 c8 d0 d1 d2
  have c0 : wb.cell? ⟨w.heap.size, 0, none⟩ = some (.int .u64 0) := B0b.out.cell 0 (by simp)
  have c1 : wb.cell? ⟨w.heap.size, 1, none⟩ = some (.int .u64 (s)) := B0b.out.cell 1 (by simp)
  have c2 : wb.cell? ⟨w.heap.size, 2, none⟩ = some (.pointer (some a)) := B0b.out.cell 2 (by simp)
  have c3 : wb.cell? ⟨w.heap.size, 3, none⟩ = some (.int .u64 0) := B0b.out.cell 3 (by simp)
  have c4 : wb.cell? ⟨w.heap.size, 4, none⟩ = some (.int .u64 (t)) := B0b.out.cell 4 (by simp)
  have c5 : wb.cell? ⟨w.heap.size, 5, none⟩ = some (.pointer (some a)) := B0b.out.cell 5 (by simp)
  have c6 : wb.cell? ⟨w.heap.size, 6, none⟩ = some (.int .u8 0) := B0b.out.cell 6 (by simp)
  have c7 : wb.cell? ⟨w.heap.size, 7, none⟩ = some (.int .u16 0) := B0b.out.cell 7 (by simp)
  have c8 : wb.cell? ⟨w.heap.size, 8, none⟩ = some (.int .u16 65535) := B0b.out.cell 8 (by simp)
  go_wp2
  go_ret
  exact ⟨rfl, bwb.out⟩

theorem carr_any (a : Addr) (s t x pr po : Int) (pd : Bool) (w : World) (g : GW a w) :
    Calls Tryd.prog 23 #[.agg #[.int .u64 0, .int .u64 (s), .pointer (some a), .int .u64 0, .int .u64 (t), .pointer (some a), .int .u8 0, .int .u16 0, .int .u16 65535], .agg #[.int .u64 0, .int .u64 (x), .pointer (some a)], .int .u8 pr, .int .u16 po, .bool pd] w fun e w' => e = .returned (.bool (decide (s ≤ x) && decide (x ≤ t))) ∧ Below w.heap.size w w' := by
  rcases Int.lt_or_le x s with h1 | h1
  · have e : (decide (s ≤ x) && decide (x ≤ t)) = false := by simp; omega
    rw [e]; exact carr_lo a s t x pr po pd h1 w g
  · rcases Int.lt_or_le t x with h2 | h2
    · have e : (decide (s ≤ x) && decide (x ≤ t)) = false := by simp; omega
      rw [e]; exact carr_hi a s t x pr po pd h1 h2 w g
    · have e : (decide (s ≤ x) && decide (x ≤ t)) = true := by simp; omega
      rw [e]; exact carr_in a s t x pr po pd h1 h2 w g
end Go.Proofs.Qxb6618999aDoor
