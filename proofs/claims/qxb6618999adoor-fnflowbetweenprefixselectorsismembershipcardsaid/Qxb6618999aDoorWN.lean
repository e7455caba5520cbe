import Derived.Test.Qxb6618999aDoorWB
import Derived.WalkKit
import Derived.WalkSpells
import Derived.WalkLawsBesides
import Derived.Laws.NewBlocks
import Derived.Laws.Bits64b
import Derived.Laws.Shifts
import Derived.BigQuiet
import Derived.Below
import Derived.Deep.RegionWith
import Derived.Deep.DeepCutAuto
import Derived.Test.Qxb6618999aDoorBoxb
import Derived.Test.Qxb6618999aDoorWM
namespace Go.Proofs.Qxb6618999aDoor
open Go Go.RowKit
set_option linter.unusedVariables false
set_option linter.unusedSimpArgs false
theorem be_bytes (v : Int) (h0 : 0 ≤ v) (h1 : v < 4294967296) : be (v / 16777216) (v / 65536 % 256) (v / 256 % 256) (v % 256) = v := by
  unfold be; omega
theorem end_law (st : Int) (h : Nat) (hh : h ≤ 32) (h0 : 0 ≤ st) (hm : st % 2 ^ h = 0) (h1 : st + (2 ^ h - 1) < 4294967296) :
    bits .or .u32 (be (st / 16777216) (st / 65536 % 256) (st / 256 % 256) (st % 256)) (IntKind.u32.wrap (IntKind.u64.wrap (IntKind.u64.wrap (2 ^ h) - 1))) = st + (2 ^ h - 1) := by
  have hp := ipos h
  have hl := ile h hh
  rw [be_bytes st h0 (by omega)]
  have e1 : IntKind.u64.wrap ((2 : Int) ^ h) = 2 ^ h := by rw [IntKind.wrap_u64]; exact Int.emod_eq_of_lt (by omega) (by omega)
  have e2 : IntKind.u64.wrap ((2 : Int) ^ h - 1) = 2 ^ h - 1 := by rw [IntKind.wrap_u64]; exact Int.emod_eq_of_lt (by omega) (by omega)
  have e3 : IntKind.u32.wrap ((2 : Int) ^ h - 1) = 2 ^ h - 1 := by rw [IntKind.wrap_u32]; exact Int.emod_eq_of_lt (by omega) (by omega)
  rw [e1, e2, e3, or32 st (2 ^ h - 1) h h0 hm (by omega) (by omega) h1]
theorem st_facts (p : Int) (h : Nat) (hh : h ≤ 32) (h0 : 0 ≤ p) (h1 : p < 4294967296) :
    0 ≤ p - p % 2 ^ h ∧ (p - p % 2 ^ h) % 2 ^ h = 0 ∧ p - p % 2 ^ h + (2 ^ h - 1) < 4294967296 := by
  have hp := ipos h
  have e := Int.emod_add_mul_ediv p (2 ^ h)
  have a1 := Int.emod_nonneg p (show (2 : Int) ^ h ≠ 0 by omega)
  have a2 := Int.emod_lt_of_pos p hp
  have e2 : p - p % 2 ^ h = 2 ^ h * (p / 2 ^ h) := by omega
  have e3 : (4294967296 : Int) = 2 ^ h * 2 ^ (32 - h) := by rw [← Int.pow_add, Nat.add_sub_cancel' hh]; rfl
  have e4 : 0 ≤ p / 2 ^ h := Int.ediv_nonneg h0 (by omega)
  have e5 : p / 2 ^ h < 2 ^ (32 - h) := Int.ediv_lt_of_lt_mul hp (by rw [Int.mul_comm, ← e3]; exact h1)
  have e6 : 2 ^ h * (p / 2 ^ h) + 2 ^ h ≤ 4294967296 := by
    have : 2 ^ h * (p / 2 ^ h + 1) ≤ 2 ^ h * 2 ^ (32 - h) := Int.mul_le_mul_of_nonneg_left (by omega) (by omega)
    rw [Int.mul_add, Int.mul_one, ← e3] at this
    exact this
  refine ⟨by rw [e2]; exact Int.mul_nonneg (by omega) e4, by rw [e2]; exact Int.mul_emod_right _ _, by omega⟩
theorem hL_law (p n : Int) (h0 : 0 ≤ n) (h1 : n ≤ 32) (hp0 : 0 ≤ p) (hp1 : p < 4294967296) :
    bits .and .u64 (281470681743360 + p) (18446744073709551615 * 2 ^ (128 - (n + 96)).toNat % 18446744073709551616) = 281470681743360 + (p - p % 2 ^ (32 - n).toNat) := by
  rw [show (128 - (n + 96)).toNat = (32 - n).toNat by omega, and64 _ _ (by omega) (by omega) (by omega), lo_law p _ (by omega)]
set_option maxHeartbeats 8000000 in
set_option maxRecDepth 100000 in
theorem zzsel_any (a : Addr) (p0 p1 p2 p3 n : Int) (hp0 : 0 ≤ p0) (kp0 : p0 < 256) (hp1 : 0 ≤ p1) (kp1 : p1 < 256) (hp2 : 0 ≤ p2) (kp2 : p2 < 256) (hp3 : 0 ≤ p3) (kp3 : p3 < 256) (h0 : 0 ≤ n) (h1 : n ≤ 32) (w : World) (g : GW a w) :
    Calls Tryd.prog 4 #[.agg #[.int .u8 p0, .int .u8 p1, .int .u8 p2, .int .u8 p3], .int .i64 n] w fun e w' => e = .returned (.agg #[.int .u64 0, .int .u64 (281470681743360 + (be p0 p1 p2 p3 - be p0 p1 p2 p3 % 2 ^ (32 - n).toNat)), .pointer (some a), .int .u64 0, .int .u64 (281470681743360 + (be p0 p1 p2 p3 - be p0 p1 p2 p3 % 2 ^ (32 - n).toNat + (2 ^ (32 - n).toNat - 1))), .pointer (some a), .int .u8 0, .int .u16 0, .int .u16 65535]) ∧ Below w.heap.size w w' := by
  have q1 := g.z4
  have q2 := g.z0
  have q6 := g.lt
  have q3 : 0 < w.heap.size := by omega
  have q4 : 1 < w.heap.size := by omega
  have q5 : 2 < w.heap.size := by omega
  clear q6
  have hh29 := held29
  have hg29 := guard29
  have he1 := eqSame a
  have he2 := eqNil a
  have B0 : Bx (Box ((w.alloc (.cells #[.int .u8 p0, .int .u8 p1, .int .u8 p2, .int .u8 p3] 22)).alloc (.cells #[.int .u64 0, .int .u64 0, .pointer none, .int .u64 0, .int .u64 0, .pointer none, .int .u8 0, .int .u16 0, .int .u16 0] 33)) (w.heap.size) [.int .u8 p0, .int .u8 p1, .int .u8 p2, .int .u8 p3]) := ⟨(Box.new w #[.int .u8 p0, .int .u8 p1, .int .u8 p2, .int .u8 p3] 22).alloc _⟩
  have B1 : Bx (Box ((w.alloc (.cells #[.int .u8 p0, .int .u8 p1, .int .u8 p2, .int .u8 p3] 22)).alloc (.cells #[.int .u64 0, .int .u64 0, .pointer none, .int .u64 0, .int .u64 0, .pointer none, .int .u8 0, .int .u16 0, .int .u16 0] 33)) (w.heap.size + 1) [.int .u64 0, .int .u64 0, .pointer none, .int .u64 0, .int .u64 0, .pointer none, .int .u8 0, .int .u16 0, .int .u16 0]) := ⟨by have := Box.new (w.alloc (.cells #[.int .u8 p0, .int .u8 p1, .int .u8 p2, .int .u8 p3] 22)) #[.int .u64 0, .int .u64 0, .pointer none, .int .u64 0, .int .u64 0, .pointer none, .int .u8 0, .int .u16 0, .int .u16 0] 33; simpa using this⟩
  have g0 : Bx (GW a ((w.alloc (.cells #[.int .u8 p0, .int .u8 p1, .int .u8 p2, .int .u8 p3] 22)).alloc (.cells #[.int .u64 0, .int .u64 0, .pointer none, .int .u64 0, .int .u64 0, .pointer none, .int .u8 0, .int .u16 0, .int .u16 0] 33))) := ⟨(g.alloc _).alloc _⟩
  have bw0 : Bx (Below w.heap.size w ((w.alloc (.cells #[.int .u8 p0, .int .u8 p1, .int .u8 p2, .int .u8 p3] 22)).alloc (.cells #[.int .u64 0, .int .u64 0, .pointer none, .int .u64 0, .int .u64 0, .pointer none, .int .u8 0, .int .u16 0, .int .u16 0] 33))) := ⟨by repeat' (first | (with_reducible exact Below.refl _ _) | (with_reducible assumption) | (with_reducible refine Below.drewN' ?_ _) | (with_reducible refine Below.drew ?_) | (with_reducible refine Below.setCell ?_ ?_ _) | (with_reducible refine Below.alloc ?_ ?_ _) | omega | (simp <;> omega))⟩
  have hbd := Bx.mk (be_bound p0 p1 p2 p3 hp0 kp0 hp1 kp1 hp2 kp2 hp3 kp3)
  have sf := Bx.mk (st_facts (be p0 p1 p2 p3) (32 - n).toNat (by omega) hbd.out.1 hbd.out.2)
  have hL := Bx.mk (hL_law (be p0 p1 p2 p3) n h0 h1 hbd.out.1 hbd.out.2)
  have hE := Bx.mk (end_law (be p0 p1 p2 p3 - be p0 p1 p2 p3 % 2 ^ (32 - n).toNat) (32 - n).toNat (by omega) sf.out.1 sf.out.2.1 sf.out.2.2)
  have hip := Bx.mk (ipos (32 - n).toNat)
  go_enter Tryd.func4, Tryd.ntmps4
  go_wp2_with fail
  generalize (w.alloc (.cells #[.int .u8 p0, .int .u8 p1, .int .u8 p2, .int .u8 p3] 22)).alloc (.cells #[.int .u64 0, .int .u64 0, .pointer none, .int .u64 0, .int .u64 0, .pointer none, .int .u8 0, .int .u16 0, .int .u16 0] 33) = W0 at *
  clear q1 q2 q3 q4 q5 hh29 hg29 he1 he2
  refine (af4_any a p0 p1 p2 p3 hp0 kp0 hp1 kp1 hp2 kp2 hp3 kp3 _ g0.out).mono ?_
  rintro e wa ⟨rfl, hb⟩
  have bwa : Bx (Below w.heap.size w wa) := ⟨Below.trans (by have := bw0.out; repeat' (first | (with_reducible exact Below.refl _ _) | (with_reducible assumption) | (with_reducible refine Below.drewN' ?_ _) | (with_reducible refine Below.drew ?_) | (with_reducible refine Below.setCell ?_ ?_ _) | (with_reducible refine Below.alloc ?_ ?_ _) | omega | (simp <;> omega))) (hb.mono (by have := B0.out.lt; first | omega | (simp <;> omega)))⟩
  have B1a : Bx (Box wa (w.heap.size + 1) [.int .u64 0, .int .u64 0, .pointer none, .int .u64 0, .int .u64 0, .pointer none, .int .u8 0, .int .u16 0, .int .u16 0]) := ⟨Box.after hb B1.out⟩
  have ga : Bx (GW a wa) := ⟨GW.after hb g0.out⟩
  clear hb B0 B1 g0 bw0
  go_wp2_with fail
  refine (pfrom_any a (281470681743360 + be p0 p1 p2 p3) n h0 h1 _ ga.out).mono ?_
  rintro e wb ⟨rfl, hb⟩
  have bwb : Bx (Below w.heap.size w wb) := ⟨Below.trans (by have := bwa.out; repeat' (first | (with_reducible exact Below.refl _ _) | (with_reducible assumption) | (with_reducible refine Below.drewN' ?_ _) | (with_reducible refine Below.drew ?_) | (with_reducible refine Below.setCell ?_ ?_ _) | (with_reducible refine Below.alloc ?_ ?_ _) | omega | (simp <;> omega))) (hb.mono (by have := B1a.out.lt; first | omega | (simp <;> omega)))⟩
  have B1b : Bx (Box wb (w.heap.size + 1) [.int .u64 0, .int .u64 0, .pointer none, .int .u64 0, .int .u64 0, .pointer none, .int .u8 0, .int .u16 0, .int .u16 0]) := ⟨Box.after hb B1a.out⟩
  have gb : Bx (GW a wb) := ⟨GW.after hb ga.out⟩
  clear hb B1a ga bwa
  go_wp2_with fail
  refine (selfor_any a (be p0 p1 p2 p3) (be p0 p1 p2 p3 - be p0 p1 p2 p3 % 2 ^ (32 - n).toNat) (be p0 p1 p2 p3 - be p0 p1 p2 p3 % 2 ^ (32 - n).toNat + (2 ^ (32 - n).toNat - 1)) n h0 h1 sf.out.1 (by have := sf.out.2.2; have := hip.out; omega) (by have := sf.out.1; have := hip.out; omega) sf.out.2.2 hL.out hE ⟨by rw [be_bytes _ (by have := sf.out.1; have := hip.out; omega) sf.out.2.2]⟩ _ gb.out).mono ?_
  rintro e wc ⟨rfl, hb⟩
  have bwc : Bx (Below w.heap.size w wc) := ⟨Below.trans (by have := bwb.out; repeat' (first | (with_reducible exact Below.refl _ _) | (with_reducible assumption) | (with_reducible refine Below.drewN' ?_ _) | (with_reducible refine Below.drew ?_) | (with_reducible refine Below.setCell ?_ ?_ _) | (with_reducible refine Below.alloc ?_ ?_ _) | omega | (simp <;> omega))) (hb.mono (by have := B1b.out.lt; first | omega | (simp <;> omega)))⟩
  have B1c : Bx (Box wc (w.heap.size + 1) [.int .u64 0, .int .u64 0, .pointer none, .int .u64 0, .int .u64 0, .pointer none, .int .u8 0, .int .u16 0, .int .u16 0]) := ⟨Box.after hb B1b.out⟩
  clear hb B1b gb bwb
  have d0 : wc.cell? ⟨w.heap.size + 1, 0, none⟩ = some (.int .u64 0) := B1c.out.cell 0 (by simp)
  have df0 : wc.frozen? ⟨w.heap.size + 1, 0, none⟩ = false := B1c.out.free 0 (by simp)
  have d1 : wc.cell? ⟨w.heap.size + 1, 1, none⟩ = some (.int .u64 0) := B1c.out.cell 1 (by simp)
  have df1 : wc.frozen? ⟨w.heap.size + 1, 1, none⟩ = false := B1c.out.free 1 (by simp)
  have d2 : wc.cell? ⟨w.heap.size + 1, 2, none⟩ = some (.pointer none) := B1c.out.cell 2 (by simp)
  have df2 : wc.frozen? ⟨w.heap.size + 1, 2, none⟩ = false := B1c.out.free 2 (by simp)
  have d3 : wc.cell? ⟨w.heap.size + 1, 3, none⟩ = some (.int .u64 0) := B1c.out.cell 3 (by simp)
  have df3 : wc.frozen? ⟨w.heap.size + 1, 3, none⟩ = false := B1c.out.free 3 (by simp)
  have d4 : wc.cell? ⟨w.heap.size + 1, 4, none⟩ = some (.int .u64 0) := B1c.out.cell 4 (by simp)
  have df4 : wc.frozen? ⟨w.heap.size + 1, 4, none⟩ = false := B1c.out.free 4 (by simp)
  have d5 : wc.cell? ⟨w.heap.size + 1, 5, none⟩ = some (.pointer none) := B1c.out.cell 5 (by simp)
  have df5 : wc.frozen? ⟨w.heap.size + 1, 5, none⟩ = false := B1c.out.free 5 (by simp)
  have d6 : wc.cell? ⟨w.heap.size + 1, 6, none⟩ = some (.int .u8 0) := B1c.out.cell 6 (by simp)
  have df6 : wc.frozen? ⟨w.heap.size + 1, 6, none⟩ = false := B1c.out.free 6 (by simp)
  have d7 : wc.cell? ⟨w.heap.size + 1, 7, none⟩ = some (.int .u16 0) := B1c.out.cell 7 (by simp)
  have df7 : wc.frozen? ⟨w.heap.size + 1, 7, none⟩ = false := B1c.out.free 7 (by simp)
  have d8 : wc.cell? ⟨w.heap.size + 1, 8, none⟩ = some (.int .u16 0) := B1c.out.cell 8 (by simp)
  have df8 : wc.frozen? ⟨w.heap.size + 1, 8, none⟩ = false := B1c.out.free 8 (by simp)
  clear hbd sf hL hE hip
  have bwr := bwc.out
  go_wp2
  refine bodyPost_ret (v := .agg #[.int .u64 0, .int .u64 (281470681743360 + (be p0 p1 p2 p3 - be p0 p1 p2 p3 % 2 ^ (32 - n).toNat)), .pointer (some a), .int .u64 0, .int .u64 (281470681743360 + (be p0 p1 p2 p3 - be p0 p1 p2 p3 % 2 ^ (32 - n).toNat + (2 ^ (32 - n).toNat - 1))), .pointer (some a), .int .u8 0, .int .u16 0, .int .u16 65535]) (by simp [results, Tryd.results4, go_sem, sc_same, *]) rfl ⟨rfl, ?_⟩
  repeat' (first | (with_reducible exact Below.refl _ _) | (with_reducible assumption) | (with_reducible refine Below.drewN' ?_ _) | (with_reducible refine Below.drew ?_) | (with_reducible refine Below.setCell ?_ ?_ _) | (with_reducible refine Below.alloc ?_ ?_ _) | omega | (simp <;> omega))

end Go.Proofs.Qxb6618999aDoor
