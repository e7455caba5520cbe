import Derived.Test.Qxb6618999aDoorWB
import Derived.WalkKit
import Derived.WalkSpells
import Derived.WalkLawsBesides
import Derived.Laws.NewBlocks
import Derived.Laws.Bits64b
import Derived.Laws.Shifts
import Derived.BigQuiet
import Derived.Below
import Derived.Deep.RegionWith
import Derived.Deep.DeepCutAuto
import Derived.Test.Qxb6618999aDoorBoxb
import Derived.Test.Qxb6618999aDoorWI
namespace Go.Proofs.Qxb6618999aDoor
open Go Go.RowKit
set_option linter.unusedVariables false
set_option linter.unusedSimpArgs false
set_option maxHeartbeats 8000000 in
set_option maxRecDepth 100000 in
theorem clo1_any (a : Addr) (fb : Nat) (s t x y pr po qo : Int) (pd : Bool) (w : World) (g : GW a w) (F : Bx (Box w fb [.int .u64 0, .int .u64 (x), .pointer (some a), .int .u64 0, .int .u64 (y), .pointer (some a), .int .u8 pr, .int .u16 po, .int .u16 qo, .bool pd])) :
    Calls Tryd.prog 22 #[.agg #[.int .u64 0, .int .u64 (s), .pointer (some a), .int .u64 0, .int .u64 (t), .pointer (some a), .int .u8 0, .int .u16 0, .int .u16 65535], .pointer (some ⟨fb, 0, none⟩)] w fun e w' => e = .returned (.bool (decide (s ≤ x) && decide (x ≤ t))) ∧ Below w.heap.size w w' := by
  have g0 : Bx (GW a (w.alloc (.cells #[.int .u64 0, .int .u64 (s), .pointer (some a), .int .u64 0, .int .u64 (t), .pointer (some a), .int .u8 0, .int .u16 0, .int .u16 65535] 33))) := ⟨g.alloc _⟩
  have bw0 : Bx (Below w.heap.size w (w.alloc (.cells #[.int .u64 0, .int .u64 (s), .pointer (some a), .int .u64 0, .int .u64 (t), .pointer (some a), .int .u8 0, .int .u16 0, .int .u16 65535] 33))) := ⟨(Below.refl _ _).alloc (Nat.le_refl _) _⟩
  have hlt := F.out.lt
  have c0 : w.cell? ⟨fb, 0, none⟩ = some (.int .u64 0) := F.out.cell 0 (by simp)
  have c1 : w.cell? ⟨fb, 1, none⟩ = some (.int .u64 (x)) := F.out.cell 1 (by simp)
  have c2 : w.cell? ⟨fb, 2, none⟩ = some (.pointer (some a)) := F.out.cell 2 (by simp)
  have c3 : w.cell? ⟨fb, 3, none⟩ = some (.int .u64 0) := F.out.cell 3 (by simp)
  have c4 : w.cell? ⟨fb, 4, none⟩ = some (.int .u64 (y)) := F.out.cell 4 (by simp)
  have c5 : w.cell? ⟨fb, 5, none⟩ = some (.pointer (some a)) := F.out.cell 5 (by simp)
  have c6 : w.cell? ⟨fb, 6, none⟩ = some (.int .u8 pr) := F.out.cell 6 (by simp)
  have c7 : w.cell? ⟨fb, 7, none⟩ = some (.int .u16 po) := F.out.cell 7 (by simp)
  have c8 : w.cell? ⟨fb, 8, none⟩ = some (.int .u16 qo) := F.out.cell 8 (by simp)
  have c9 : w.cell? ⟨fb, 9, none⟩ = some (.bool pd) := F.out.cell 9 (by simp)
  go_enter Tryd.func22, Tryd.ntmps22
  go_wp2_with fail
  refine (carr_any a s t x pr po pd _ g0.out).mono ?_
  rintro e w1 ⟨rfl, hb⟩
  have bw1 : Below w.heap.size w w1 := bw0.out.trans (hb.mono (by simp))
  clear hb g0 bw0
  go_wp2
  go_ret
  exact ⟨rfl, bw1⟩

set_option maxHeartbeats 8000000 in
set_option maxRecDepth 100000 in
theorem clo2_any (a : Addr) (fb : Nat) (s t x y pr po qo : Int) (pd : Bool) (w : World) (g : GW a w) (F : Bx (Box w fb [.int .u64 0, .int .u64 (x), .pointer (some a), .int .u64 0, .int .u64 (y), .pointer (some a), .int .u8 pr, .int .u16 po, .int .u16 qo, .bool pd])) :
    Calls Tryd.prog 24 #[.agg #[.int .u64 0, .int .u64 (s), .pointer (some a), .int .u64 0, .int .u64 (t), .pointer (some a), .int .u8 0, .int .u16 0, .int .u16 65535], .pointer (some ⟨fb, 0, none⟩)] w fun e w' => e = .returned (.bool (decide (s ≤ y) && decide (y ≤ t))) ∧ Below w.heap.size w w' := by
  have g0 : Bx (GW a (w.alloc (.cells #[.int .u64 0, .int .u64 (s), .pointer (some a), .int .u64 0, .int .u64 (t), .pointer (some a), .int .u8 0, .int .u16 0, .int .u16 65535] 33))) := ⟨g.alloc _⟩
  have bw0 : Bx (Below w.heap.size w (w.alloc (.cells #[.int .u64 0, .int .u64 (s), .pointer (some a), .int .u64 0, .int .u64 (t), .pointer (some a), .int .u8 0, .int .u16 0, .int .u16 65535] 33))) := ⟨(Below.refl _ _).alloc (Nat.le_refl _) _⟩
  have hlt := F.out.lt
  have c0 : w.cell? ⟨fb, 0, none⟩ = some (.int .u64 0) := F.out.cell 0 (by simp)
  have c1 : w.cell? ⟨fb, 1, none⟩ = some (.int .u64 (x)) := F.out.cell 1 (by simp)
  have c2 : w.cell? ⟨fb, 2, none⟩ = some (.pointer (some a)) := F.out.cell 2 (by simp)
  have c3 : w.cell? ⟨fb, 3, none⟩ = some (.int .u64 0) := F.out.cell 3 (by simp)
  have c4 : w.cell? ⟨fb, 4, none⟩ = some (.int .u64 (y)) := F.out.cell 4 (by simp)
  have c5 : w.cell? ⟨fb, 5, none⟩ = some (.pointer (some a)) := F.out.cell 5 (by simp)
  have c6 : w.cell? ⟨fb, 6, none⟩ = some (.int .u8 pr) := F.out.cell 6 (by simp)
  have c7 : w.cell? ⟨fb, 7, none⟩ = some (.int .u16 po) := F.out.cell 7 (by simp)
  have c8 : w.cell? ⟨fb, 8, none⟩ = some (.int .u16 qo) := F.out.cell 8 (by simp)
  have c9 : w.cell? ⟨fb, 9, none⟩ = some (.bool pd) := F.out.cell 9 (by simp)
  go_enter Tryd.func24, Tryd.ntmps24
  go_wp2_with fail
  refine (carr_any a s t y pr qo pd _ g0.out).mono ?_
  rintro e w1 ⟨rfl, hb⟩
  have bw1 : Below w.heap.size w w1 := bw0.out.trans (hb.mono (by simp))
  clear hb g0 bw0
  go_wp2
  go_ret
  exact ⟨rfl, bw1⟩

set_option maxHeartbeats 8000000 in
set_option maxRecDepth 100000 in
theorem idxT1 (a : Addr) (fb eb cp : Nat) (s t x y pr po qo : Int) (pd : Bool) (hv : (decide (s ≤ x) && decide (x ≤ t)) = true) (w : World) (g : GW a w) (F : Bx (Box w fb [.int .u64 0, .int .u64 (x), .pointer (some a), .int .u64 0, .int .u64 (y), .pointer (some a), .int .u8 pr, .int .u16 po, .int .u16 qo, .bool pd])) (E : Bx (Box w eb [.int .u64 0, .int .u64 (s), .pointer (some a), .int .u64 0, .int .u64 (t), .pointer (some a), .int .u8 0, .int .u16 0, .int .u16 65535])) :
    Calls Tryd.prog 29 #[.slice (some ⟨eb, 0, none⟩) 1 cp, .func (.func 22) #[] #[.pointer (some ⟨fb, 0, none⟩)]] w fun e w' => e = .returned (.int .i64 (0)) ∧ Below w.heap.size w w' := by
  have c0 : w.cell? ⟨eb, 0, none⟩ = some (.int .u64 0) := E.out.cell 0 (by simp)
  have c1 : w.cell? ⟨eb, 1, none⟩ = some (.int .u64 (s)) := E.out.cell 1 (by simp)
  have c2 : w.cell? ⟨eb, 2, none⟩ = some (.pointer (some a)) := E.out.cell 2 (by simp)
  have c3 : w.cell? ⟨eb, 3, none⟩ = some (.int .u64 0) := E.out.cell 3 (by simp)
  have c4 : w.cell? ⟨eb, 4, none⟩ = some (.int .u64 (t)) := E.out.cell 4 (by simp)
  have c5 : w.cell? ⟨eb, 5, none⟩ = some (.pointer (some a)) := E.out.cell 5 (by simp)
  have c6 : w.cell? ⟨eb, 6, none⟩ = some (.int .u8 0) := E.out.cell 6 (by simp)
  have c7 : w.cell? ⟨eb, 7, none⟩ = some (.int .u16 0) := E.out.cell 7 (by simp)
  have c8 : w.cell? ⟨eb, 8, none⟩ = some (.int .u16 65535) := E.out.cell 8 (by simp)
  go_enter Tryd.func29, Tryd.ntmps29
  go_wp2
  go_loopw [4, 5, 8] (fun t4 t5 t8 wr => t8 = .int .i64 0 ∧ wr = w) (fun _ _ t8 _ => 1 - (intOf t8).toNat)
  case atStart => exact ⟨rfl, rfl⟩
  case round =>
    obtain ⟨rfl, rfl⟩ := hrel
    go_wp2_with fail
    refine (clo1_any a fb s t x y pr po qo pd _ g F).mono ?_
    rw [hv]
    rintro e w1 ⟨rfl, hb⟩
    go_wp2
    go_ret
    exact ⟨rfl, hb⟩

set_option maxHeartbeats 8000000 in
set_option maxRecDepth 100000 in
theorem idxF1 (a : Addr) (fb eb cp : Nat) (s t x y pr po qo : Int) (pd : Bool) (hv : (decide (s ≤ x) && decide (x ≤ t)) = false) (w : World) (g : GW a w) (F : Bx (Box w fb [.int .u64 0, .int .u64 (x), .pointer (some a), .int .u64 0, .int .u64 (y), .pointer (some a), .int .u8 pr, .int .u16 po, .int .u16 qo, .bool pd])) (E : Bx (Box w eb [.int .u64 0, .int .u64 (s), .pointer (some a), .int .u64 0, .int .u64 (t), .pointer (some a), .int .u8 0, .int .u16 0, .int .u16 65535])) :
    Calls Tryd.prog 29 #[.slice (some ⟨eb, 0, none⟩) 1 cp, .func (.func 22) #[] #[.pointer (some ⟨fb, 0, none⟩)]] w fun e w' => e = .returned (.int .i64 (-1)) ∧ Below w.heap.size w w' := by
  have c0 : w.cell? ⟨eb, 0, none⟩ = some (.int .u64 0) := E.out.cell 0 (by simp)
  have c1 : w.cell? ⟨eb, 1, none⟩ = some (.int .u64 (s)) := E.out.cell 1 (by simp)
  have c2 : w.cell? ⟨eb, 2, none⟩ = some (.pointer (some a)) := E.out.cell 2 (by simp)
  have c3 : w.cell? ⟨eb, 3, none⟩ = some (.int .u64 0) := E.out.cell 3 (by simp)
  have c4 : w.cell? ⟨eb, 4, none⟩ = some (.int .u64 (t)) := E.out.cell 4 (by simp)
  have c5 : w.cell? ⟨eb, 5, none⟩ = some (.pointer (some a)) := E.out.cell 5 (by simp)
  have c6 : w.cell? ⟨eb, 6, none⟩ = some (.int .u8 0) := E.out.cell 6 (by simp)
  have c7 : w.cell? ⟨eb, 7, none⟩ = some (.int .u16 0) := E.out.cell 7 (by simp)
  have c8 : w.cell? ⟨eb, 8, none⟩ = some (.int .u16 65535) := E.out.cell 8 (by simp)
  go_enter Tryd.func29, Tryd.ntmps29
  go_wp2
  go_loopw [4, 5, 8] (fun t4 t5 t8 wr => (t8 = .int .i64 0 ∧ wr = w) ∨ (t8 = .int .i64 1 ∧ Bx (Below w.heap.size w wr))) (fun _ _ t8 _ => 1 - (intOf t8).toNat)
  case atStart => exact Or.inl ⟨rfl, rfl⟩
  case round =>
    rcases hrel with ⟨rfl, rfl⟩ | ⟨rfl, hb⟩
    · go_wp2_with fail
      refine (clo1_any a fb s t x y pr po qo pd _ g F).mono ?_
      rw [hv]
      rintro e w1 ⟨rfl, hb⟩
      go_wp2
      go_roundw
      case rel => exact Or.inr ⟨rfl, ⟨hb⟩⟩
      case measure => simp [intOf]
    · go_wp2
      go_ret
      exact ⟨rfl, hb.out⟩

set_option maxHeartbeats 8000000 in
set_option maxRecDepth 100000 in
theorem conT1 (a : Addr) (fb eb cp : Nat) (s t x y pr po qo : Int) (pd : Bool) (hv : (decide (s ≤ x) && decide (x ≤ t)) = true) (w : World) (g : GW a w) (F : Bx (Box w fb [.int .u64 0, .int .u64 (x), .pointer (some a), .int .u64 0, .int .u64 (y), .pointer (some a), .int .u8 pr, .int .u16 po, .int .u16 qo, .bool pd])) (E : Bx (Box w eb [.int .u64 0, .int .u64 (s), .pointer (some a), .int .u64 0, .int .u64 (t), .pointer (some a), .int .u8 0, .int .u16 0, .int .u16 65535])) :
    Calls Tryd.prog 21 #[.slice (some ⟨eb, 0, none⟩) 1 cp, .func (.func 22) #[] #[.pointer (some ⟨fb, 0, none⟩)]] w fun e w' => e = .returned (.bool true) ∧ Below w.heap.size w w' := by
  go_enter Tryd.func21, Tryd.ntmps21
  go_wp2_with fail
  refine (idxT1 a fb eb cp s t x y pr po qo pd hv _ g F E).mono ?_
  rintro e w1 ⟨rfl, hb⟩
  go_wp2
  go_ret
  exact ⟨rfl, hb⟩

set_option maxHeartbeats 8000000 in
set_option maxRecDepth 100000 in
theorem conF1 (a : Addr) (fb eb cp : Nat) (s t x y pr po qo : Int) (pd : Bool) (hv : (decide (s ≤ x) && decide (x ≤ t)) = false) (w : World) (g : GW a w) (F : Bx (Box w fb [.int .u64 0, .int .u64 (x), .pointer (some a), .int .u64 0, .int .u64 (y), .pointer (some a), .int .u8 pr, .int .u16 po, .int .u16 qo, .bool pd])) (E : Bx (Box w eb [.int .u64 0, .int .u64 (s), .pointer (some a), .int .u64 0, .int .u64 (t), .pointer (some a), .int .u8 0, .int .u16 0, .int .u16 65535])) :
    Calls Tryd.prog 21 #[.slice (some ⟨eb, 0, none⟩) 1 cp, .func (.func 22) #[] #[.pointer (some ⟨fb, 0, none⟩)]] w fun e w' => e = .returned (.bool false) ∧ Below w.heap.size w w' := by
  go_enter Tryd.func21, Tryd.ntmps21
  go_wp2_with fail
  refine (idxF1 a fb eb cp s t x y pr po qo pd hv _ g F E).mono ?_
  rintro e w1 ⟨rfl, hb⟩
  go_wp2
  go_ret
  exact ⟨rfl, hb⟩

set_option maxHeartbeats 8000000 in
set_option maxRecDepth 100000 in
theorem idxT2 (a : Addr) (fb eb cp : Nat) (s t x y pr po qo : Int) (pd : Bool) (hv : (decide (s ≤ y) && decide (y ≤ t)) = true) (w : World) (g : GW a w) (F : Bx (Box w fb [.int .u64 0, .int .u64 (x), .pointer (some a), .int .u64 0, .int .u64 (y), .pointer (some a), .int .u8 pr, .int .u16 po, .int .u16 qo, .bool pd])) (E : Bx (Box w eb [.int .u64 0, .int .u64 (s), .pointer (some a), .int .u64 0, .int .u64 (t), .pointer (some a), .int .u8 0, .int .u16 0, .int .u16 65535])) :
    Calls Tryd.prog 29 #[.slice (some ⟨eb, 0, none⟩) 1 cp, .func (.func 24) #[] #[.pointer (some ⟨fb, 0, none⟩)]] w fun e w' => e = .returned (.int .i64 (0)) ∧ Below w.heap.size w w' := by
  have c0 : w.cell? ⟨eb, 0, none⟩ = some (.int .u64 0) := E.out.cell 0 (by simp)
  have c1 : w.cell? ⟨eb, 1, none⟩ = some (.int .u64 (s)) := E.out.cell 1 (by simp)
  have c2 : w.cell? ⟨eb, 2, none⟩ = some (.pointer (some a)) := E.out.cell 2 (by simp)
  have c3 : w.cell? ⟨eb, 3, none⟩ = some (.int .u64 0) := E.out.cell 3 (by simp)
  have c4 : w.cell? ⟨eb, 4, none⟩ = some (.int .u64 (t)) := E.out.cell 4 (by simp)
  have c5 : w.cell? ⟨eb, 5, none⟩ = some (.pointer (some a)) := E.out.cell 5 (by simp)
  have c6 : w.cell? ⟨eb, 6, none⟩ = some (.int .u8 0) := E.out.cell 6 (by simp)
  have c7 : w.cell? ⟨eb, 7, none⟩ = some (.int .u16 0) := E.out.cell 7 (by simp)
  have c8 : w.cell? ⟨eb, 8, none⟩ = some (.int .u16 65535) := E.out.cell 8 (by simp)
  go_enter Tryd.func29, Tryd.ntmps29
  go_wp2
  go_loopw [4, 5, 8] (fun t4 t5 t8 wr => t8 = .int .i64 0 ∧ wr = w) (fun _ _ t8 _ => 1 - (intOf t8).toNat)
  case atStart => exact ⟨rfl, rfl⟩
  case round =>
    obtain ⟨rfl, rfl⟩ := hrel
    go_wp2_with fail
    refine (clo2_any a fb s t x y pr po qo pd _ g F).mono ?_
    rw [hv]
    rintro e w1 ⟨rfl, hb⟩
    go_wp2
    go_ret
    exact ⟨rfl, hb⟩

set_option maxHeartbeats 8000000 in
set_option maxRecDepth 100000 in
theorem idxF2 (a : Addr) (fb eb cp : Nat) (s t x y pr po qo : Int) (pd : Bool) (hv : (decide (s ≤ y) && decide (y ≤ t)) = false) (w : World) (g : GW a w) (F : Bx (Box w fb [.int .u64 0, .int .u64 (x), .pointer (some a), .int .u64 0, .int .u64 (y), .pointer (some a), .int .u8 pr, .int .u16 po, .int .u16 qo, .bool pd])) (E : Bx (Box w eb [.int .u64 0, .int .u64 (s), .pointer (some a), .int .u64 0, .int .u64 (t), .pointer (some a), .int .u8 0, .int .u16 0, .int .u16 65535])) :
    Calls Tryd.prog 29 #[.slice (some ⟨eb, 0, none⟩) 1 cp, .func (.func 24) #[] #[.pointer (some ⟨fb, 0, none⟩)]] w fun e w' => e = .returned (.int .i64 (-1)) ∧ Below w.heap.size w w' := by
  have c0 : w.cell? ⟨eb, 0, none⟩ = some (.int .u64 0) := E.out.cell 0 (by simp)
  have c1 : w.cell? ⟨eb, 1, none⟩ = some (.int .u64 (s)) := E.out.cell 1 (by simp)
  have c2 : w.cell? ⟨eb, 2, none⟩ = some (.pointer (some a)) := E.out.cell 2 (by simp)
  have c3 : w.cell? ⟨eb, 3, none⟩ = some (.int .u64 0) := E.out.cell 3 (by simp)
  have c4 : w.cell? ⟨eb, 4, none⟩ = some (.int .u64 (t)) := E.out.cell 4 (by simp)
  have c5 : w.cell? ⟨eb, 5, none⟩ = some (.pointer (some a)) := E.out.cell 5 (by simp)
  have c6 : w.cell? ⟨eb, 6, none⟩ = some (.int .u8 0) := E.out.cell 6 (by simp)
  have c7 : w.cell? ⟨eb, 7, none⟩ = some (.int .u16 0) := E.out.cell 7 (by simp)
  have c8 : w.cell? ⟨eb, 8, none⟩ = some (.int .u16 65535) := E.out.cell 8 (by simp)
  go_enter Tryd.func29, Tryd.ntmps29
  go_wp2
  go_loopw [4, 5, 8] (fun t4 t5 t8 wr => (t8 = .int .i64 0 ∧ wr = w) ∨ (t8 = .int .i64 1 ∧ Bx (Below w.heap.size w wr))) (fun _ _ t8 _ => 1 - (intOf t8).toNat)
  case atStart => exact Or.inl ⟨rfl, rfl⟩
  case round =>
    rcases hrel with ⟨rfl, rfl⟩ | ⟨rfl, hb⟩
    · go_wp2_with fail
      refine (clo2_any a fb s t x y pr po qo pd _ g F).mono ?_
      rw [hv]
      rintro e w1 ⟨rfl, hb⟩
      go_wp2
      go_roundw
      case rel => exact Or.inr ⟨rfl, ⟨hb⟩⟩
      case measure => simp [intOf]
    · go_wp2
      go_ret
      exact ⟨rfl, hb.out⟩

set_option maxHeartbeats 8000000 in
set_option maxRecDepth 100000 in
theorem conT2 (a : Addr) (fb eb cp : Nat) (s t x y pr po qo : Int) (pd : Bool) (hv : (decide (s ≤ y) && decide (y ≤ t)) = true) (w : World) (g : GW a w) (F : Bx (Box w fb [.int .u64 0, .int .u64 (x), .pointer (some a), .int .u64 0, .int .u64 (y), .pointer (some a), .int .u8 pr, .int .u16 po, .int .u16 qo, .bool pd])) (E : Bx (Box w eb [.int .u64 0, .int .u64 (s), .pointer (some a), .int .u64 0, .int .u64 (t), .pointer (some a), .int .u8 0, .int .u16 0, .int .u16 65535])) :
    Calls Tryd.prog 21 #[.slice (some ⟨eb, 0, none⟩) 1 cp, .func (.func 24) #[] #[.pointer (some ⟨fb, 0, none⟩)]] w fun e w' => e = .returned (.bool true) ∧ Below w.heap.size w w' := by
  go_enter Tryd.func21, Tryd.ntmps21
  go_wp2_with fail
  refine (idxT2 a fb eb cp s t x y pr po qo pd hv _ g F E).mono ?_
  rintro e w1 ⟨rfl, hb⟩
  go_wp2
  go_ret
  exact ⟨rfl, hb⟩

set_option maxHeartbeats 8000000 in
set_option maxRecDepth 100000 in
theorem conF2 (a : Addr) (fb eb cp : Nat) (s t x y pr po qo : Int) (pd : Bool) (hv : (decide (s ≤ y) && decide (y ≤ t)) = false) (w : World) (g : GW a w) (F : Bx (Box w fb [.int .u64 0, .int .u64 (x), .pointer (some a), .int .u64 0, .int .u64 (y), .pointer (some a), .int .u8 pr, .int .u16 po, .int .u16 qo, .bool pd])) (E : Bx (Box w eb [.int .u64 0, .int .u64 (s), .pointer (some a), .int .u64 0, .int .u64 (t), .pointer (some a), .int .u8 0, .int .u16 0, .int .u16 65535])) :
    Calls Tryd.prog 21 #[.slice (some ⟨eb, 0, none⟩) 1 cp, .func (.func 24) #[] #[.pointer (some ⟨fb, 0, none⟩)]] w fun e w' => e = .returned (.bool false) ∧ Below w.heap.size w w' := by
  go_enter Tryd.func21, Tryd.ntmps21
  go_wp2_with fail
  refine (idxF2 a fb eb cp s t x y pr po qo pd hv _ g F E).mono ?_
  rintro e w1 ⟨rfl, hb⟩
  go_wp2
  go_ret
  exact ⟨rfl, hb⟩

end Go.Proofs.Qxb6618999aDoor
