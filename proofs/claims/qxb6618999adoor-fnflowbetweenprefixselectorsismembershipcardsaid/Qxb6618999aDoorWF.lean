import Derived.Test.Qxb6618999aDoorWB
import Derived.WalkKit
import Derived.WalkSpells
import Derived.WalkLawsBesides
import Derived.Laws.NewBlocks
import Derived.Laws.Bits64b
import Derived.Laws.Shifts
import Derived.BigQuiet
import Derived.Below
import Derived.Deep.RegionWith
import Derived.Test.Qxb6618999aDoorBox
namespace Go.Proofs.Qxb6618999aDoor
open Go Go.RowKit
set_option linter.unusedVariables false
set_option linter.unusedSimpArgs false
set_option maxRecDepth 100000 in
theorem put32_any (bl cp : Nat) (v b0 b1 b2 b3 : Int) (h0 : 0 ≤ v) (h1 : v < 4294967296) (w : World) (c0 : w.cell? ⟨bl, 0, none⟩ = some (.int .u8 b0)) (f0 : w.frozen? ⟨bl, 0, none⟩ = false) (c1 : w.cell? ⟨bl, 1, none⟩ = some (.int .u8 b1)) (f1 : w.frozen? ⟨bl, 1, none⟩ = false) (c2 : w.cell? ⟨bl, 2, none⟩ = some (.int .u8 b2)) (f2 : w.frozen? ⟨bl, 2, none⟩ = false) (c3 : w.cell? ⟨bl, 3, none⟩ = some (.int .u8 b3)) (f3 : w.frozen? ⟨bl, 3, none⟩ = false) :
    Calls Tryd.prog 27 #[.slice (some ⟨bl, 0, none⟩) 4 cp, .int .u32 v] w fun e w' => e = .returned (.tuple #[]) ∧ w' = (((w.setCell ⟨bl, 0, none⟩ (.int .u8 (v / 16777216))).setCell ⟨bl, 1, none⟩ (.int .u8 (v / 65536 % 256))).setCell ⟨bl, 2, none⟩ (.int .u8 (v / 256 % 256))).setCell ⟨bl, 3, none⟩ (.int .u8 (v % 256)) := by
  go_enter Tryd.func27, Tryd.ntmps27
  go_wp2
  go_end0
  exact ⟨rfl, rfl⟩
set_option maxHeartbeats 8000000 in
set_option maxRecDepth 100000 in
theorem as4_any (a : Addr) (v : Int) (h0 : 0 ≤ v) (h1 : v < 4294967296) (w : World) (g : GW a w) :
    Calls Tryd.prog 14 #[.agg #[.int .u64 0, .int .u64 (281470681743360 + v), .pointer (some a)]] w fun e w' => e = .returned (.agg #[.int .u8 (v / 16777216), .int .u8 (v / 65536 % 256), .int .u8 (v / 256 % 256), .int .u8 (v % 256)]) ∧ Below w.heap.size w w' := by
  have q1 := g.z4
  have q2 := g.z0
  have q6 := g.lt
  have q3 : 0 < w.heap.size := by omega
  have q4 : 1 < w.heap.size := by omega
  have q5 : 2 < w.heap.size := by omega
  clear q6
  have hh29 := held29
  have hg29 := guard29
  have he1 := eqSame a
  have he2 := eqNil a
  go_enter Tryd.func14, Tryd.ntmps14
  have hw : Bx (IntKind.u32.wrap (281470681743360 + v) = v) := ⟨by rw [IntKind.wrap_u32]; omega⟩
  go_wp2
  go_region_with (go_at_call 27; refine (put32_any _ _ _ 0 0 0 0 (by rw [hw.out]; omega) (by rw [hw.out]; omega) _ (by simp [go_sem]) (by simp [go_sem]) (by simp [go_sem]) (by simp [go_sem]) (by simp [go_sem]) (by simp [go_sem]) (by simp [go_sem]) (by simp [go_sem])).mono ?_; rintro e w1 ⟨rfl, rfl⟩; rw [hw.out])
  go_wp2
  refine bodyPost_ret (v := .agg #[.int .u8 (v / 16777216), .int .u8 (v / 65536 % 256), .int .u8 (v / 256 % 256), .int .u8 (v % 256)]) (by simp [results, Tryd.results14, go_sem, sc_same, *]) rfl ⟨rfl, ?_⟩
  repeat' (first | exact Below.refl _ _ | assumption | (refine Below.drewN' ?_ _) | (refine Below.drew ?_) | (refine Below.setCell ?_ (by first | omega | (simp <;> omega)) _) | (refine Below.alloc ?_ (by first | omega | (simp <;> omega)) _))

set_option maxHeartbeats 8000000 in
set_option maxRecDepth 100000 in
theorem app32_any (v : Int) (h0 : 0 ≤ v) (h1 : v < 4294967296) (w : World) :
    Calls Tryd.prog 17 #[.agg #[], .slice none 0 0, .int .u32 v] w fun e w' => ∃ cp : Nat, e = .returned (.slice (some ⟨w.heap.size + 1 + 1, 0, none⟩) 4 cp) ∧ w.heap.size + 1 + 1 < w'.heap.size ∧ w'.cell? ⟨w.heap.size + 1 + 1, 0, none⟩ = some (.int .u8 (v / 16777216)) ∧ w'.cell? ⟨w.heap.size + 1 + 1, 1, none⟩ = some (.int .u8 (v / 65536 % 256)) ∧ w'.cell? ⟨w.heap.size + 1 + 1, 2, none⟩ = some (.int .u8 (v / 256 % 256)) ∧ w'.cell? ⟨w.heap.size + 1 + 1, 3, none⟩ = some (.int .u8 (v % 256)) ∧ Below w.heap.size w w' := by
  go_enter Tryd.func17, Tryd.ntmps17
  go_wp2
  go_ret
  generalize (Question.appendCap 4 0 5).cut (w.tape w.drawn (Question.appendCap 4 0 5)) = cp
  refine ⟨cp, rfl, by simp, ?_, ?_, ?_, ?_, ?_⟩
  · refine (World.cell?_alloc_at _ _ _ _ (by simp)).trans ?_; exact (Array.getElem?_append_left (by simp)).trans rfl
  · refine (World.cell?_alloc_at _ _ _ _ (by simp)).trans ?_; exact (Array.getElem?_append_left (by simp)).trans rfl
  · refine (World.cell?_alloc_at _ _ _ _ (by simp)).trans ?_; exact (Array.getElem?_append_left (by simp)).trans rfl
  · refine (World.cell?_alloc_at _ _ _ _ (by simp)).trans ?_; exact (Array.getElem?_append_left (by simp)).trans rfl
  · repeat' (first | exact Below.refl _ _ | assumption | (refine Below.drewN' ?_ _) | (refine Below.drew ?_) | (refine Below.setCell ?_ (by first | omega | (simp <;> omega)) _) | (refine Below.alloc ?_ (by first | omega | (simp <;> omega)) _))
end Go.Proofs.Qxb6618999aDoor
