import Derived.Test.Qxb6618999aDoorWB
import Derived.WalkKit
import Derived.WalkSpells
import Derived.WalkLawsBesides
import Derived.Laws.NewBlocks
import Derived.Laws.Bits64b
import Derived.Laws.Shifts
import Derived.BigQuiet
import Derived.Below
import Derived.Deep.RegionWith
import Derived.Deep.DeepCutAuto
import Derived.Test.Qxb6618999aDoorBoxb
import Derived.Test.Qxb6618999aDoorWE
namespace Go.Proofs.Qxb6618999aDoor
open Go Go.RowKit
set_option linter.unusedVariables false
set_option linter.unusedSimpArgs false
theorem bits1_any (a : Addr) (lo n : Int) (h0 : 0 ≤ n) (h1 : n < 255) (w : World) (g : GW a w) :
    Calls Tryd.prog 15 #[.agg #[.int .u64 0, .int .u64 (lo), .pointer (some a), .int .u8 (n + 1)]] w fun e w' => e = .returned (.int .i64 n) ∧ Below w.heap.size w w' := by
  have h := bits_any a lo (n + 1) (by omega) (by omega) w g
  rw [show n + 1 - 1 = n by omega] at h
  exact h
set_option maxHeartbeats 8000000 in
set_option maxRecDepth 100000 in
theorem masked_any (a : Addr) (lo L n : Int) (h0 : 0 ≤ n) (h1 : n ≤ 32) (hL : bits .and .u64 lo (18446744073709551615 * 2 ^ (128 - (n + 96)).toNat % 18446744073709551616) = L) (w : World) (g : GW a w) :
    Calls Tryd.prog 12 #[.agg #[.int .u64 0, .int .u64 (lo), .pointer (some a), .int .u8 (n + 1)]] w fun e w' => e = .returned (.agg #[.int .u64 0, .int .u64 (L), .pointer (some a), .int .u8 (n + 1)]) ∧ Below w.heap.size w w' := by
  have q1 := g.z4
  have q2 := g.z0
  have q6 := g.lt
  have q3 : 0 < w.heap.size := by omega
  have q4 : 1 < w.heap.size := by omega
  have q5 : 2 < w.heap.size := by omega
  clear q6
  have hh29 := held29
  have hg29 := guard29
  have he1 := eqSame a
  have he2 := eqNil a
  have B0 : Bx (Box ((w.alloc (.cells #[.int .u64 0, .int .u64 (lo), .pointer (some a), .int .u8 (n + 1)] 43)).alloc (.cells #[.int .u64 0, .int .u64 0, .pointer none, .int .u8 0] 43)) (w.heap.size) [.int .u64 0, .int .u64 (lo), .pointer (some a), .int .u8 (n + 1)]) := ⟨(Box.new w #[.int .u64 0, .int .u64 (lo), .pointer (some a), .int .u8 (n + 1)] 43).alloc _⟩
  have B1 : Bx (Box ((w.alloc (.cells #[.int .u64 0, .int .u64 (lo), .pointer (some a), .int .u8 (n + 1)] 43)).alloc (.cells #[.int .u64 0, .int .u64 0, .pointer none, .int .u8 0] 43)) (w.heap.size + 1) [.int .u64 0, .int .u64 0, .pointer none, .int .u8 0]) := ⟨by have := Box.new (w.alloc (.cells #[.int .u64 0, .int .u64 (lo), .pointer (some a), .int .u8 (n + 1)] 43)) #[.int .u64 0, .int .u64 0, .pointer none, .int .u8 0] 43; simpa using this⟩
  have g0 : Bx (GW a ((w.alloc (.cells #[.int .u64 0, .int .u64 (lo), .pointer (some a), .int .u8 (n + 1)] 43)).alloc (.cells #[.int .u64 0, .int .u64 0, .pointer none, .int .u8 0] 43))) := ⟨(g.alloc _).alloc _⟩
  have bw0 : Bx (Below w.heap.size w ((w.alloc (.cells #[.int .u64 0, .int .u64 (lo), .pointer (some a), .int .u8 (n + 1)] 43)).alloc (.cells #[.int .u64 0, .int .u64 0, .pointer none, .int .u8 0] 43))) := ⟨by repeat' (first | (with_reducible exact Below.refl _ _) | (with_reducible assumption) | (with_reducible refine Below.drewN' ?_ _) | (with_reducible refine Below.drew ?_) | (with_reducible refine Below.setCell ?_ ?_ _) | (with_reducible refine Below.alloc ?_ ?_ _) | omega | (simp <;> omega))⟩
  go_enter Tryd.func12, Tryd.ntmps12
  go_upto_region 1 with fail
  generalize (w.alloc (.cells #[.int .u64 0, .int .u64 (lo), .pointer (some a), .int .u8 (n + 1)] 43)).alloc (.cells #[.int .u64 0, .int .u64 0, .pointer none, .int .u8 0] 43) = W0 at *
  clear q1 q2 q3 q4 q5 hh29 hg29 he1 he2
  have lt1 : w.heap.size + 1 < W0.heap.size := B1.out.lt
  have lt0 : w.heap.size < W0.heap.size := B0.out.lt
  go_cut [3] (fun s3 wx => ∃ b : Nat, s3 = .pointer (some ⟨b, 0, none⟩) ∧ w.heap.size + 1 < b ∧ Bx (Box wx b [.int .u64 0, .int .u64 (L), .pointer (some a), .int .u8 (n + 1)]) ∧ Bx (Box wx (w.heap.size + 1) [.int .u64 0, .int .u64 0, .pointer none, .int .u8 0]) ∧ Bx (Below w.heap.size w wx))
  case first =>
    have c0 : W0.cell? ⟨w.heap.size, 0, none⟩ = some (.int .u64 0) := B0.out.cell 0 (by simp)
    have c1 : W0.cell? ⟨w.heap.size, 1, none⟩ = some (.int .u64 (lo)) := B0.out.cell 1 (by simp)
    have c2 : W0.cell? ⟨w.heap.size, 2, none⟩ = some (.pointer (some a)) := B0.out.cell 2 (by simp)
    have c3 : W0.cell? ⟨w.heap.size, 3, none⟩ = some (.int .u8 (n + 1)) := B0.out.cell 3 (by simp)
    go_region_with (first | (go_at_call 15; refine (bits1_any a lo n (by omega) (by omega) _ (by repeat' (first | (with_reducible exact g0.out) | (with_reducible refine GW.alloc ?_ _) | (with_reducible refine GW.drew ?_) | (with_reducible refine GW.drewN ?_ _)))).mono ?_; rintro e w1 ⟨rfl, hb⟩; have B0a : Bx (Box w1 (w.heap.size) [.int .u64 0, .int .u64 (lo), .pointer (some a), .int .u8 (n + 1)]) := ⟨Box.after hb (by (repeat' (first | (with_reducible exact B0.out) | (with_reducible refine Box.setCell ?_ _ _ ?_) | (with_reducible refine Box.alloc ?_ _) | (with_reducible refine Box.drew ?_) | (with_reducible refine Box.drewN ?_ _) | omega | (simp <;> omega))); done)⟩; have B1a : Bx (Box w1 (w.heap.size + 1) [.int .u64 0, .int .u64 0, .pointer none, .int .u8 0]) := ⟨Box.after hb (by (repeat' (first | (with_reducible exact B1.out) | (with_reducible refine Box.setCell ?_ _ _ ?_) | (with_reducible refine Box.alloc ?_ _) | (with_reducible refine Box.drew ?_) | (with_reducible refine Box.drewN ?_ _) | omega | (simp <;> omega))); done)⟩; (try (have B2a : Bx (Box w1 (W0.heap.size) [.int .u64 0, .int .u64 0, .pointer none, .int .u8 0]) := ⟨Box.after hb (by first | ((with_reducible refine Box.new' _ _ _ ?_ ?_) <;> rfl) | ((with_reducible refine Box.drew ?_); (with_reducible refine Box.new' _ _ _ ?_ ?_) <;> rfl))⟩)); have ga : Bx (GW a w1) := ⟨GW.after hb (by repeat' (first | (with_reducible exact g0.out) | (with_reducible refine GW.alloc ?_ _) | (with_reducible refine GW.drew ?_) | (with_reducible refine GW.drewN ?_ _)))⟩; have bwa : Bx (Below w.heap.size w w1) := ⟨Below.trans (by have := bw0.out; repeat' (first | (with_reducible exact Below.refl _ _) | (with_reducible assumption) | (with_reducible refine Below.drewN' ?_ _) | (with_reducible refine Below.drew ?_) | (with_reducible refine Below.setCell ?_ ?_ _) | (with_reducible refine Below.alloc ?_ ?_ _) | omega | (simp <;> omega))) (hb.mono (by first | omega | (simp <;> omega)))⟩; have lta : W0.heap.size ≤ w1.heap.size := (by have := hb.size; first | omega | (simp at this; omega)); have lta0 : w.heap.size < w1.heap.size := B0a.out.lt; clear hb; have ca0 : w1.cell? ⟨w.heap.size, 0, none⟩ = some (.int .u64 0) := B0a.out.cell 0 (by simp); have ca1 : w1.cell? ⟨w.heap.size, 1, none⟩ = some (.int .u64 (lo)) := B0a.out.cell 1 (by simp); have ca2 : w1.cell? ⟨w.heap.size, 2, none⟩ = some (.pointer (some a)) := B0a.out.cell 2 (by simp); have ca3 : w1.cell? ⟨w.heap.size, 3, none⟩ = some (.int .u8 (n + 1)) := B0a.out.cell 3 (by simp)) | (go_at_call 25; refine (prefix_any a lo L n h0 h1 hL _ (by repeat' (first | (with_reducible exact ga.out) | (with_reducible refine GW.alloc ?_ _) | (with_reducible refine GW.drew ?_) | (with_reducible refine GW.drewN ?_ _)))).mono ?_; rintro e w2 ⟨rfl, hb⟩; have B1b : Bx (Box w2 (w.heap.size + 1) [.int .u64 0, .int .u64 0, .pointer none, .int .u8 0]) := ⟨Box.after hb (by (repeat' (first | (with_reducible exact B1a.out) | (with_reducible refine Box.setCell ?_ _ _ ?_) | (with_reducible refine Box.alloc ?_ _) | (with_reducible refine Box.drew ?_) | (with_reducible refine Box.drewN ?_ _) | omega | (simp <;> omega))); done)⟩; (try (have hB2a := B2a; clear hB2a; have B2b : Bx (Box w2 (W0.heap.size) [.int .u64 0, .int .u64 0, .pointer none, .int .u8 0]) := ⟨Box.after hb (by (repeat' (first | (with_reducible exact B2a.out) | (with_reducible refine Box.setCell ?_ _ _ ?_) | (with_reducible refine Box.alloc ?_ _) | (with_reducible refine Box.drew ?_) | (with_reducible refine Box.drewN ?_ _) | omega | (simp <;> omega))); done)⟩; have x0 : w2.cell? ⟨W0.heap.size, 0, none⟩ = some (.int .u64 0) := B2b.out.cell 0 (by simp); have xf0 : w2.frozen? ⟨W0.heap.size, 0, none⟩ = false := B2b.out.free 0 (by simp); have x1 : w2.cell? ⟨W0.heap.size, 1, none⟩ = some (.int .u64 0) := B2b.out.cell 1 (by simp); have xf1 : w2.frozen? ⟨W0.heap.size, 1, none⟩ = false := B2b.out.free 1 (by simp); have x2 : w2.cell? ⟨W0.heap.size, 2, none⟩ = some (.pointer none) := B2b.out.cell 2 (by simp); have xf2 : w2.frozen? ⟨W0.heap.size, 2, none⟩ = false := B2b.out.free 2 (by simp); have x3 : w2.cell? ⟨W0.heap.size, 3, none⟩ = some (.int .u8 0) := B2b.out.cell 3 (by simp); have xf3 : w2.frozen? ⟨W0.heap.size, 3, none⟩ = false := B2b.out.free 3 (by simp))); (try (have B2b : Bx (Box w2 (w1.heap.size) [.int .u64 0, .int .u64 0, .pointer none, .int .u8 0]) := ⟨Box.after hb (by first | ((with_reducible refine Box.new' _ _ _ ?_ ?_) <;> rfl) | ((with_reducible refine Box.drew ?_); (with_reducible refine Box.new' _ _ _ ?_ ?_) <;> rfl))⟩; have x0 : w2.cell? ⟨w1.heap.size, 0, none⟩ = some (.int .u64 0) := B2b.out.cell 0 (by simp); have xf0 : w2.frozen? ⟨w1.heap.size, 0, none⟩ = false := B2b.out.free 0 (by simp); have x1 : w2.cell? ⟨w1.heap.size, 1, none⟩ = some (.int .u64 0) := B2b.out.cell 1 (by simp); have xf1 : w2.frozen? ⟨w1.heap.size, 1, none⟩ = false := B2b.out.free 1 (by simp); have x2 : w2.cell? ⟨w1.heap.size, 2, none⟩ = some (.pointer none) := B2b.out.cell 2 (by simp); have xf2 : w2.frozen? ⟨w1.heap.size, 2, none⟩ = false := B2b.out.free 2 (by simp); have x3 : w2.cell? ⟨w1.heap.size, 3, none⟩ = some (.int .u8 0) := B2b.out.cell 3 (by simp); have xf3 : w2.frozen? ⟨w1.heap.size, 3, none⟩ = false := B2b.out.free 3 (by simp))); have bwb : Bx (Below w.heap.size w w2) := ⟨Below.trans (by have : w.heap.size + 1 < w1.heap.size := (by omega); have := bwa.out; repeat' (first | (with_reducible exact Below.refl _ _) | (with_reducible assumption) | (with_reducible refine Below.drewN' ?_ _) | (with_reducible refine Below.drew ?_) | (with_reducible refine Below.setCell ?_ ?_ _) | (with_reducible refine Below.alloc ?_ ?_ _) | omega | (simp <;> omega))) (hb.mono (by first | omega | (simp <;> omega)))⟩; have ltb : w1.heap.size ≤ w2.heap.size := (by have := hb.size; first | omega | (simp at this; omega)); have e2 : (w2.cell? ⟨w1.heap.size, 0, none⟩).isSome = true ∨ True := Or.inr trivial; clear hb))
    all_goals (
      go_wp2_with fail
      go_meet
      refine ⟨_, rfl, ?_, ⟨?_⟩, ⟨?_⟩, ⟨?_⟩⟩
      · first | omega | (simp <;> omega)
      · first | (first | ((with_reducible refine Box.new' _ _ _ ?_ ?_) <;> rfl) | ((with_reducible refine Box.drew ?_); (with_reducible refine Box.new' _ _ _ ?_ ?_) <;> rfl)) | (with_reducible exact Box.st4 B2b.out _ _ _ _)
      · (repeat' (first | (with_reducible exact B1b.out) | (with_reducible refine Box.setCell ?_ _ _ ?_) | (with_reducible refine Box.alloc ?_ _) | (with_reducible refine Box.drew ?_) | (with_reducible refine Box.drewN ?_ _) | omega | (simp <;> omega))); done
      · have := bwb.out; repeat' (first | (with_reducible exact Below.refl _ _) | (with_reducible assumption) | (with_reducible refine Below.drewN' ?_ _) | (with_reducible refine Below.drew ?_) | (with_reducible refine Below.setCell ?_ ?_ _) | (with_reducible refine Below.alloc ?_ ?_ _) | omega | (simp <;> omega))
      )
  case rest =>
    obtain ⟨b, rfl, hlt, B3, B4, bw⟩ := hcut
    clear B0 B1 g0 bw0
    have c0 : wc.cell? ⟨b, 0, none⟩ = some (.int .u64 0) := B3.out.cell 0 (by simp)
    have c1 : wc.cell? ⟨b, 1, none⟩ = some (.int .u64 (L)) := B3.out.cell 1 (by simp)
    have c2 : wc.cell? ⟨b, 2, none⟩ = some (.pointer (some a)) := B3.out.cell 2 (by simp)
    have c3 : wc.cell? ⟨b, 3, none⟩ = some (.int .u8 (n + 1)) := B3.out.cell 3 (by simp)
    have d0 : wc.cell? ⟨w.heap.size + 1, 0, none⟩ = some (.int .u64 0) := B4.out.cell 0 (by simp)
    have df0 : wc.frozen? ⟨w.heap.size + 1, 0, none⟩ = false := B4.out.free 0 (by simp)
    have d1 : wc.cell? ⟨w.heap.size + 1, 1, none⟩ = some (.int .u64 0) := B4.out.cell 1 (by simp)
    have df1 : wc.frozen? ⟨w.heap.size + 1, 1, none⟩ = false := B4.out.free 1 (by simp)
    have d2 : wc.cell? ⟨w.heap.size + 1, 2, none⟩ = some (.pointer none) := B4.out.cell 2 (by simp)
    have df2 : wc.frozen? ⟨w.heap.size + 1, 2, none⟩ = false := B4.out.free 2 (by simp)
    have d3 : wc.cell? ⟨w.heap.size + 1, 3, none⟩ = some (.int .u8 0) := B4.out.cell 3 (by simp)
    have df3 : wc.frozen? ⟨w.heap.size + 1, 3, none⟩ = false := B4.out.free 3 (by simp)
    have bwr := bw.out
    go_wp2
    refine bodyPost_ret (v := .agg #[.int .u64 0, .int .u64 (L), .pointer (some a), .int .u8 (n + 1)]) (by simp [results, Tryd.results12, go_sem, sc_same, *]) rfl ⟨rfl, ?_⟩
    repeat' (first | (with_reducible exact Below.refl _ _) | (with_reducible assumption) | (with_reducible refine Below.drewN' ?_ _) | (with_reducible refine Below.drew ?_) | (with_reducible refine Below.setCell ?_ ?_ _) | (with_reducible refine Below.alloc ?_ ?_ _) | omega | (simp <;> omega))

end Go.Proofs.Qxb6618999aDoor
