import Derived.Test.Qxb6618999aDoorRowA
import Derived.LaidMore
import Derived.Stop.Joined
namespace Go.Proofs.Qxb6618999aDoor
open Go.ChangeShapes Go.WideShapes Go.ChangeAt Go.WideMaps Go.WideElems Go.RowKit
def laid6 : List (String × DataW Unit) := Rows.fnFlowBetweenPrefixSelectorsIsMembershipRow.laid
def laidName (k : Nat) : String := ((laid6[k]?).map (·.1)).getD ""
theorem gz4 : Tryd.prog.globalNamed (laidName 3) = some 1 := by kernel_rfl
theorem gz0 : Tryd.prog.globalNamed (laidName 5) = some 2 := by kernel_rfl
theorem gdb : Tryd.prog.globalNamed (laidName 1) = some 6 := by kernel_rfl
theorem tz4 : (Tryd.prog.globals[1]?).map (·.type) = some 29 := by kernel_rfl
theorem tz0 : (Tryd.prog.globals[2]?).map (·.type) = some 29 := by kernel_rfl
set_option maxRecDepth 100000 in
theorem of_laid {W : World} (h : laidMetH Tryd.prog laid6 W) : ∃ a, GW a W := by
  rw [MakeChecks.laidMetH_plain _ _ _ (by kernel_rfl)] at h
  obtain ⟨ps, ⟨g0, t0, cs0, f0, p0, q0, hg0, ht0, hv0, hd0, ⟨g1, t1, cs1, f1, p1, q1, hg1, ht1, hv1, hd1, ⟨g2, t2, cs2, f2, p2, q2, hg2, ht2, hv2, hd2, ⟨g3, t3, cs3, f3, p3, q3, hg3, ht3, hv3, hd3, ⟨g4, t4, cs4, f4, p4, q4, hg4, ht4, hv4, hd4, ⟨g5, t5, cs5, f5, p5, q5, hg5, ht5, hv5, hd5, _, _⟩, _⟩, _⟩, _⟩, _⟩, _⟩, _, _⟩ := h
  obtain rfl := Option.some.inj (gdb.symm.trans hg1)
  obtain rfl := Option.some.inj (gz4.symm.trans hg3)
  obtain rfl := Option.some.inj (gz0.symm.trans hg5)
  obtain rfl := Option.some.inj (tz4.symm.trans ht3)
  obtain rfl := Option.some.inj (tz0.symm.trans ht5)
  have c29 : Tryd.prog.cellsOf 29 = 1 := by kernel_rfl
  have c27 : Tryd.prog.cellsOf 27 = 1 := by kernel_rfl
  obtain ⟨y3, n3, hx3, hl3, hy3⟩ := trod_struct1 Tryd.underlying29 hd3
  obtain ⟨y5, n5, hx5, hl5, hy5⟩ := trod_struct1 Tryd.underlying29 hd5
  rw [c29] at hl3 hl5
  have z4 := World.var?_cell hg3 hv3 0
  have z0 := World.var?_cell hg5 hv5 0
  obtain ⟨l3⟩ := cs3
  obtain ⟨l5⟩ := cs5
  simp at hl3 hl5
  obtain ⟨x3, rfl⟩ := List.length_eq_one_iff.mp hl3
  obtain ⟨x5, rfl⟩ := List.length_eq_one_iff.mp hl5
  simp [c27] at hy3 hy5
  have h64 := World.var?_cell hg1 hv1 0
  obtain ⟨xs1, m1, _, hx1, hl1, _⟩ := DataW.trod_array (show Tryd.prog.underlying t1 = _ from by
    have : t1 = 95 := Option.some.inj (ht1.symm.trans (show (Tryd.prog.globals[6]?).map (·.type) = some 95 by kernel_rfl))
    rw [this]; exact Tryd.underlying95) hd1
  rcases DataW.trod_pointer Tryd.underlying27 hy3 with ⟨e3, hq3⟩ | ⟨a, cs', y, n, _, e3, hq3, _⟩
  · rw [hq3] at hx3
    simp [Rows.laid_net_netip_z4] at hx3
  rcases DataW.trod_pointer Tryd.underlying27 hy5 with ⟨e5, hq5⟩ | ⟨a', cs', y', n', _, e5, hq5, _⟩
  · simp at e3 e5
    subst e3 e5
    refine ⟨a, by simpa using z4, by simpa using z0, ?_⟩
    have hc : (cs1[0]?).isSome = true := by
      have : t1 = 95 := Option.some.inj (ht1.symm.trans (show (Tryd.prog.globals[6]?).map (·.type) = some 95 by kernel_rfl))
      rw [this, show Tryd.prog.cellsOf 95 = 64 by kernel_rfl] at hl1
      simp at hl1
      simp [hl1]
    obtain ⟨u, hu⟩ := Option.isSome_iff_exists.mp hc
    rw [hu] at h64
    exact World.block_lt_of_cell? W _ h64
  · rw [hq5] at hx5
    simp [Rows.laid_net_netip_z0] at hx5
end Go.Proofs.Qxb6618999aDoor
