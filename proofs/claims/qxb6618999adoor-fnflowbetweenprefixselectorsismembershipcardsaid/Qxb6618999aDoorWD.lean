import Derived.Test.Qxb6618999aDoorWB
import Derived.WalkKit
import Derived.WalkSpells
import Derived.WalkLawsBesides
import Derived.Laws.NewBlocks
import Derived.Laws.Bits64b
import Derived.Laws.Shifts
import Derived.BigQuiet
import Derived.Below
import Derived.Test.Qxb6618999aDoorWC
namespace Go.Proofs.Qxb6618999aDoor
open Go Go.RowKit
set_option linter.unusedVariables false
theorem sc_same (w : World) (a : Addr) (v : Value) (h : (w.cell? a).isSome = true) : (w.setCell a v).cell? a = some v := by
  obtain ⟨u, hu⟩ := Option.isSome_iff_exists.mp h
  exact World.cell?_setCell_same _ _ _ hu
set_option maxRecDepth 100000 in
theorem wozone_any (a : Addr) (lo : Int) (w : World) (g : GW a w) :
    Calls Tryd.prog 20 #[.agg #[.int .u64 0, .int .u64 (lo), .pointer (some a)]] w fun e w' => e = .returned (.agg #[.int .u64 0, .int .u64 (lo), .pointer (some a)]) ∧ Below w.heap.size w w' := by
  have q1 := g.z4
  have q2 := g.z0
  have q6 := g.lt
  have q3 : 0 < w.heap.size := by omega
  have q4 : 1 < w.heap.size := by omega
  have q5 : 2 < w.heap.size := by omega
  clear q6
  have hh29 := held29
  have hg29 := guard29
  have he1 := eqSame a
  have he2 := eqNil a
  go_enter Tryd.func20, Tryd.ntmps20
  go_wp2_with fail
  refine (is6_any a lo _ (g.below (by repeat' (first | exact Below.refl _ _ | assumption | (refine Below.drewN' ?_ _) | (refine Below.drew ?_) | (refine Below.setCell ?_ (by first | omega | (simp <;> omega)) _) | (refine Below.alloc ?_ (by first | omega | (simp <;> omega)) _))))).mono ?_
  rintro e w1 ⟨rfl, hb⟩
  have c0 : w1.cell? ⟨w.heap.size, 0, none⟩ = some (.int .u64 0) := (hb.cell (by first | omega | (simp <;> omega))).trans (by simp [go_sem, *])
  have c1 : w1.cell? ⟨w.heap.size, 1, none⟩ = some (.int .u64 (lo)) := (hb.cell (by first | omega | (simp <;> omega))).trans (by simp [go_sem, *])
  have c2 : w1.cell? ⟨w.heap.size, 2, none⟩ = some (.pointer (some a)) := (hb.cell (by first | omega | (simp <;> omega))).trans (by simp [go_sem, *])
  have d0 : w1.cell? ⟨w.heap.size + 1, 0, none⟩ = some (.int .u64 0) := (hb.cell (by first | omega | (simp <;> omega))).trans (by simp [go_sem, *])
  have fd0 : w1.frozen? ⟨w.heap.size + 1, 0, none⟩ = false := (hb.frozen (by first | omega | (simp <;> omega))).trans (by simp [go_sem, *])
  have d1 : w1.cell? ⟨w.heap.size + 1, 1, none⟩ = some (.int .u64 0) := (hb.cell (by first | omega | (simp <;> omega))).trans (by simp [go_sem, *])
  have fd1 : w1.frozen? ⟨w.heap.size + 1, 1, none⟩ = false := (hb.frozen (by first | omega | (simp <;> omega))).trans (by simp [go_sem, *])
  have d2 : w1.cell? ⟨w.heap.size + 1, 2, none⟩ = some (.pointer none) := (hb.cell (by first | omega | (simp <;> omega))).trans (by simp [go_sem, *])
  have fd2 : w1.frozen? ⟨w.heap.size + 1, 2, none⟩ = false := (hb.frozen (by first | omega | (simp <;> omega))).trans (by simp [go_sem, *])
  have bw : Below w.heap.size w w1 := Below.trans (by repeat' (first | exact Below.refl _ _ | assumption | (refine Below.drewN' ?_ _) | (refine Below.drew ?_) | (refine Below.setCell ?_ (by first | omega | (simp <;> omega)) _) | (refine Below.alloc ?_ (by first | omega | (simp <;> omega)) _))) (hb.mono (by simp <;> omega))
  clear hb
  go_wp2
  refine bodyPost_ret (v := .agg #[.int .u64 0, .int .u64 (lo), .pointer (some a)]) (by simp [results, Tryd.results20, go_sem, sc_same, *]) rfl ⟨rfl, ?_⟩
  repeat' (first | exact Below.refl _ _ | assumption | (refine Below.drewN' ?_ _) | (refine Below.drew ?_) | (refine Below.setCell ?_ (by first | omega | (simp <;> omega)) _) | (refine Below.alloc ?_ (by first | omega | (simp <;> omega)) _))

set_option maxRecDepth 100000 in
theorem pfrom_any (a : Addr) (lo n : Int) (h0 : 0 ≤ n) (h1 : n ≤ 32) (w : World) (g : GW a w) :
    Calls Tryd.prog 9 #[.agg #[.int .u64 0, .int .u64 (lo), .pointer (some a)], .int .i64 n] w fun e w' => e = .returned (.agg #[.int .u64 0, .int .u64 (lo), .pointer (some a), .int .u8 (n + 1)]) ∧ Below w.heap.size w w' := by
  have q1 := g.z4
  have q2 := g.z0
  have q6 := g.lt
  have q3 : 0 < w.heap.size := by omega
  have q4 : 1 < w.heap.size := by omega
  have q5 : 2 < w.heap.size := by omega
  clear q6
  go_enter Tryd.func9, Tryd.ntmps9
  go_wp2_with fail
  refine (isZero_any a lo _ (g.below (by repeat' (first | exact Below.refl _ _ | assumption | (refine Below.drewN' ?_ _) | (refine Below.drew ?_) | (refine Below.setCell ?_ (by first | omega | (simp <;> omega)) _) | (refine Below.alloc ?_ (by first | omega | (simp <;> omega)) _))))).mono ?_
  rintro e w1 ⟨rfl, hb⟩
  have c0 : w1.cell? ⟨w.heap.size, 0, none⟩ = some (.int .u64 0) := (hb.cell (by first | omega | (simp <;> omega))).trans (by simp [go_sem, *])
  have c1 : w1.cell? ⟨w.heap.size, 1, none⟩ = some (.int .u64 (lo)) := (hb.cell (by first | omega | (simp <;> omega))).trans (by simp [go_sem, *])
  have c2 : w1.cell? ⟨w.heap.size, 2, none⟩ = some (.pointer (some a)) := (hb.cell (by first | omega | (simp <;> omega))).trans (by simp [go_sem, *])
  have d0 : w1.cell? ⟨w.heap.size + 1, 0, none⟩ = some (.int .u64 0) := (hb.cell (by first | omega | (simp <;> omega))).trans (by simp [go_sem, *])
  have fd0 : w1.frozen? ⟨w.heap.size + 1, 0, none⟩ = false := (hb.frozen (by first | omega | (simp <;> omega))).trans (by simp [go_sem, *])
  have d1 : w1.cell? ⟨w.heap.size + 1, 1, none⟩ = some (.int .u64 0) := (hb.cell (by first | omega | (simp <;> omega))).trans (by simp [go_sem, *])
  have fd1 : w1.frozen? ⟨w.heap.size + 1, 1, none⟩ = false := (hb.frozen (by first | omega | (simp <;> omega))).trans (by simp [go_sem, *])
  have d2 : w1.cell? ⟨w.heap.size + 1, 2, none⟩ = some (.pointer none) := (hb.cell (by first | omega | (simp <;> omega))).trans (by simp [go_sem, *])
  have fd2 : w1.frozen? ⟨w.heap.size + 1, 2, none⟩ = false := (hb.frozen (by first | omega | (simp <;> omega))).trans (by simp [go_sem, *])
  have d3 : w1.cell? ⟨w.heap.size + 1, 3, none⟩ = some (.int .u8 0) := (hb.cell (by first | omega | (simp <;> omega))).trans (by simp [go_sem, *])
  have fd3 : w1.frozen? ⟨w.heap.size + 1, 3, none⟩ = false := (hb.frozen (by first | omega | (simp <;> omega))).trans (by simp [go_sem, *])
  have g1 : GW a w1 := GW.below (g.below (by repeat' (first | exact Below.refl _ _ | assumption | (refine Below.drewN' ?_ _) | (refine Below.drew ?_) | (refine Below.setCell ?_ (by first | omega | (simp <;> omega)) _) | (refine Below.alloc ?_ (by first | omega | (simp <;> omega)) _)))) hb
  have bw : Below w.heap.size w w1 := Below.trans (by repeat' (first | exact Below.refl _ _ | assumption | (refine Below.drewN' ?_ _) | (refine Below.drew ?_) | (refine Below.setCell ?_ (by first | omega | (simp <;> omega)) _) | (refine Below.alloc ?_ (by first | omega | (simp <;> omega)) _))) (hb.mono (by simp <;> omega))
  have sz : w.heap.size + 2 ≤ w1.heap.size := by have := hb.size; simp at this; omega
  clear hb
  go_wp2_with fail
  refine (bitLen_any a lo _ g1).mono ?_
  rintro e w2 ⟨rfl, hb⟩
  have c'0 : w2.cell? ⟨w.heap.size, 0, none⟩ = some (.int .u64 0) := (hb.cell (by first | omega | (simp <;> omega))).trans (by simp [go_sem, *])
  have c'1 : w2.cell? ⟨w.heap.size, 1, none⟩ = some (.int .u64 (lo)) := (hb.cell (by first | omega | (simp <;> omega))).trans (by simp [go_sem, *])
  have c'2 : w2.cell? ⟨w.heap.size, 2, none⟩ = some (.pointer (some a)) := (hb.cell (by first | omega | (simp <;> omega))).trans (by simp [go_sem, *])
  have d'0 : w2.cell? ⟨w.heap.size + 1, 0, none⟩ = some (.int .u64 0) := (hb.cell (by first | omega | (simp <;> omega))).trans (by simp [go_sem, *])
  have fd'0 : w2.frozen? ⟨w.heap.size + 1, 0, none⟩ = false := (hb.frozen (by first | omega | (simp <;> omega))).trans (by simp [go_sem, *])
  have d'1 : w2.cell? ⟨w.heap.size + 1, 1, none⟩ = some (.int .u64 0) := (hb.cell (by first | omega | (simp <;> omega))).trans (by simp [go_sem, *])
  have fd'1 : w2.frozen? ⟨w.heap.size + 1, 1, none⟩ = false := (hb.frozen (by first | omega | (simp <;> omega))).trans (by simp [go_sem, *])
  have d'2 : w2.cell? ⟨w.heap.size + 1, 2, none⟩ = some (.pointer none) := (hb.cell (by first | omega | (simp <;> omega))).trans (by simp [go_sem, *])
  have fd'2 : w2.frozen? ⟨w.heap.size + 1, 2, none⟩ = false := (hb.frozen (by first | omega | (simp <;> omega))).trans (by simp [go_sem, *])
  have d'3 : w2.cell? ⟨w.heap.size + 1, 3, none⟩ = some (.int .u8 0) := (hb.cell (by first | omega | (simp <;> omega))).trans (by simp [go_sem, *])
  have fd'3 : w2.frozen? ⟨w.heap.size + 1, 3, none⟩ = false := (hb.frozen (by first | omega | (simp <;> omega))).trans (by simp [go_sem, *])
  have g2 : GW a w2 := g1.below hb
  have bw2 : Below w.heap.size w w2 := bw.trans (hb.mono (by omega))
  have sz2 : w.heap.size + 2 ≤ w2.heap.size := by have := hb.size; omega
  clear hb bw c0 c1 c2 d0 d1 d2 d3 fd0 fd1 fd2 fd3 g1 sz
  go_wp2_with fail
  refine (wozone_any a lo _ g2).mono ?_
  rintro e w3 ⟨rfl, hb⟩
  have d0 : w3.cell? ⟨w.heap.size + 1, 0, none⟩ = some (.int .u64 0) := (hb.cell (by first | omega | (simp <;> omega))).trans (by simp [go_sem, *])
  have fd0 : w3.frozen? ⟨w.heap.size + 1, 0, none⟩ = false := (hb.frozen (by first | omega | (simp <;> omega))).trans (by simp [go_sem, *])
  have d1 : w3.cell? ⟨w.heap.size + 1, 1, none⟩ = some (.int .u64 0) := (hb.cell (by first | omega | (simp <;> omega))).trans (by simp [go_sem, *])
  have fd1 : w3.frozen? ⟨w.heap.size + 1, 1, none⟩ = false := (hb.frozen (by first | omega | (simp <;> omega))).trans (by simp [go_sem, *])
  have d2 : w3.cell? ⟨w.heap.size + 1, 2, none⟩ = some (.pointer none) := (hb.cell (by first | omega | (simp <;> omega))).trans (by simp [go_sem, *])
  have fd2 : w3.frozen? ⟨w.heap.size + 1, 2, none⟩ = false := (hb.frozen (by first | omega | (simp <;> omega))).trans (by simp [go_sem, *])
  have d3 : w3.cell? ⟨w.heap.size + 1, 3, none⟩ = some (.int .u8 0) := (hb.cell (by first | omega | (simp <;> omega))).trans (by simp [go_sem, *])
  have fd3 : w3.frozen? ⟨w.heap.size + 1, 3, none⟩ = false := (hb.frozen (by first | omega | (simp <;> omega))).trans (by simp [go_sem, *])
  have bw3 : Below w.heap.size w w3 := bw2.trans (hb.mono (by omega))
  clear hb c'0 c'1 c'2 d'0 d'1 d'2 d'3 fd'0 fd'1 fd'2 fd'3 g2 sz2 bw2
  go_wp2
  refine bodyPost_ret (v := .agg #[.int .u64 0, .int .u64 (lo), .pointer (some a), .int .u8 (n + 1)]) (by simp [results, Tryd.results9, go_sem, sc_same, *]) rfl ⟨rfl, ?_⟩
  repeat' (first | exact Below.refl _ _ | assumption | (refine Below.drewN' ?_ _) | (refine Below.drew ?_) | (refine Below.setCell ?_ (by first | omega | (simp <;> omega)) _) | (refine Below.alloc ?_ (by first | omega | (simp <;> omega)) _))

end Go.Proofs.Qxb6618999aDoor
