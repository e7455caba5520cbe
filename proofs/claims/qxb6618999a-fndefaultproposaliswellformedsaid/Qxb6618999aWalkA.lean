import Derived.Test.Qxb6618999aRows
import Derived.WalkKit
import Derived.WalkSpells
import Derived.WalkLawsBesides
import Derived.BigQuiet
namespace Go.Proofs.Qxb6618999a
open Go.RowKit

/-- A fact kept from the walk: a structure, so that nothing looks into it. -/
structure Bx (p : Prop) : Prop where
  out : p

def PC : Array Value := #[.int .u8 1, .int .u16 12, .int .u16 256, .int .u8 1, .int .u16 12, .int .u16 128, .int .u8 3, .int .u16 12, .int .u16 0, .int .u8 3, .int .u16 13, .int .u16 0, .int .u8 2, .int .u16 5, .int .u16 0, .int .u8 2, .int .u16 6, .int .u16 0, .int .u8 4, .int .u16 31, .int .u16 0, .int .u8 4, .int .u16 19, .int .u16 0, .int .u8 4, .int .u16 20, .int .u16 0, .int .u8 4, .int .u16 14, .int .u16 0]

set_option maxHeartbeats 400000 in
theorem proposal_any (w : World) : Calls Try.prog 5 #[] w fun e w' => e = .returned (.slice (some ⟨w.heap.size, 0, none⟩) 10 10) ∧ w' = w.alloc (.cells PC 28) := by
  go_enter Try.func5, Try.ntmps5
  go_wp2
  go_ret
  exact ⟨rfl, rfl⟩

structure PW (w : World) (sn : List Bool) (wr : World) : Prop where
  p : ∀ j, j < 30 → wr.cell? ⟨w.heap.size, j, none⟩ = PC[j]?
  s : ∀ j, j < 5 → wr.cell? ⟨w.heap.size + 1, j, none⟩ = some (.bool (sn.getD j false))
  f : ∀ j, wr.frozen? ⟨w.heap.size + 1, j, none⟩ = false
  lt : w.heap.size + 1 < wr.heap.size
  bel : Below w.heap.size w wr

theorem PW.below {w : World} {sn : List Bool} {wr wr' : World} (h : PW w sn wr) (hb : Below wr.heap.size wr wr') : PW w sn wr' := by
  have hlt := h.lt
  refine ⟨fun j hj => ?_, fun j hj => ?_, fun j => ?_, Nat.lt_of_lt_of_le hlt hb.size, h.bel.trans (hb.mono h.bel.size)⟩
  · rw [hb.cell (p := ⟨w.heap.size, j, none⟩) (show w.heap.size < _ by omega)]; exact h.p j hj
  · rw [hb.cell (p := ⟨w.heap.size + 1, j, none⟩) hlt]; exact h.s j hj
  · rw [hb.frozen (p := ⟨w.heap.size + 1, j, none⟩) hlt]; exact h.f j
theorem PW.see {w : World} {sn : List Bool} {wr : World} (h : PW w sn wr) (k : Nat) (hk : k < 5) (hl : sn.length = 5) : PW w (sn.set k true) (wr.setCell ⟨w.heap.size + 1, k, none⟩ (.bool true)) := by
  refine ⟨fun j hj => ?_, fun j hj => ?_, fun j => ?_, by simpa [World.setCell] using h.lt, h.bel.setCell (by simp) _⟩
  · rw [World.cell?_setCell_other _ _ _ _ (by simp)]; exact h.p j hj
  · by_cases e : j = k
    · subst e
      rw [World.cell?_setCell_same _ _ _ (h.s j hj)]
      simp [List.getD_eq_getElem?_getD, hl, hj]
    · rw [World.cell?_setCell_other _ _ _ _ (by intro h; injection h with h1 h2; omega), h.s j hj]
      simp [List.getD_eq_getElem?_getD, Ne.symm e]
  · rw [World.frozen?_setCell]; exact h.f j

theorem PW.start (w : World) : PW w [false, false, false, false, false] ((w.alloc (.cells PC 28)).alloc (.cells #[.bool false, .bool false, .bool false, .bool false, .bool false] 24)) := by
  have hz : (w.alloc (.cells PC 28)).heap.size = w.heap.size + 1 := by simp
  have hb1 : Below (w.alloc (.cells PC 28)).heap.size (w.alloc (.cells PC 28)) ((w.alloc (.cells PC 28)).alloc (.cells #[.bool false, .bool false, .bool false, .bool false, .bool false] 24)) := (Below.refl _ _).alloc (Nat.le_refl _) _
  refine ⟨fun j hj => ?_, fun j hj => ?_, fun j => ?_, by simp, ((Below.refl _ _).alloc (Nat.le_refl _) _).alloc (by omega) _⟩
  · rw [hb1.cell (p := ⟨w.heap.size, j, none⟩) (show w.heap.size < _ by omega), World.cell?_alloc_new]
  · rw [← hz, World.cell?_alloc_new]
    match j, hj with
    | 0, _ => rfl
    | 1, _ => rfl
    | 2, _ => rfl
    | 3, _ => rfl
    | 4, _ => rfl
  · rw [frozen?_alloc_cells, frozen?_alloc_cells]
    have : w.heap.size + 1 ≥ w.heap.size := by omega
    simp [World.frozen?]

def ty (i : Nat) : Nat := [1, 1, 3, 3, 2, 2, 4, 4, 4, 4].getD i 0
def lastA (i : Nat) : Nat := [0, 256, 128, 128, 128, 128, 128, 128, 128, 128, 128].getD i 0
def seenAt : Nat → List Bool
  | 0 => [false, false, false, false, false]
  | i + 1 => (seenAt i).set (ty i) true
theorem seenAt_length (i : Nat) : (seenAt i).length = 5 := by
  induction i with
  | zero => rfl
  | succ i ih => simp [seenAt, ih]

theorem held28 : Try.prog.stoodInHeld 28 = false := by kernel_rfl
theorem guard28 : Try.prog.eqGuardType Try.prog.depth 28 = false := by kernel_rfl
structure TW (w : World) (sn : List Bool) (a b c : Int) (T : Nat) (W : World) : Prop where
  pw : PW w sn W
  c0 : W.cell? ⟨T, 0, none⟩ = some (.int .u8 a)
  c1 : W.cell? ⟨T, 1, none⟩ = some (.int .u16 b)
  c2 : W.cell? ⟨T, 2, none⟩ = some (.int .u16 c)
  ne : w.heap.size + 1 < T
theorem TW.start {w : World} {sn : List Bool} {wr : World} (h : PW w sn wr) (a b c : Int) : TW w sn a b c wr.heap.size (wr.alloc (.cells #[.int .u8 a, .int .u16 b, .int .u16 c] 28)) :=
  ⟨h.below ((Below.refl _ _).alloc (Nat.le_refl _) _), by simp, by simp, by simp, h.lt⟩
theorem TW.drewN {w : World} {sn : List Bool} {a b c : Int} {T : Nat} {W : World} (h : TW w sn a b c T W) (n : Nat) : TW w sn a b c T (W.drewN n) :=
  ⟨⟨h.pw.p, h.pw.s, h.pw.f, h.pw.lt, h.pw.bel.trans ⟨rfl, rfl, rfl, Nat.le_refl _, fun _ _ => rfl⟩⟩, h.c0, h.c1, h.c2, h.ne⟩
theorem TW.see {w : World} {sn : List Bool} {a b c : Int} {T : Nat} {W : World} (h : TW w sn a b c T W) (k : Nat) (hk : k < 5) (hl : sn.length = 5) : TW w (sn.set k true) a b c T (W.setCell ⟨w.heap.size + 1, k, none⟩ (.bool true)) := by
  have hne := h.ne
  refine ⟨h.pw.see k hk hl, ?_, ?_, ?_, h.ne⟩
  · rw [World.cell?_setCell_other _ _ _ _ (by intro h; injection h with h1 h2; omega)]; exact h.c0
  · rw [World.cell?_setCell_other _ _ _ _ (by intro h; injection h with h1 h2; omega)]; exact h.c1
  · rw [World.cell?_setCell_other _ _ _ _ (by intro h; injection h with h1 h2; omega)]; exact h.c2

set_option maxRecDepth 100000 in
set_option maxHeartbeats 40000000 in
theorem wf_law (w : World) : Calls Try.prog 3 #[] w fun e w' => e = .returned (.bool true) ∧ Below w.heap.size w w' := by
  have hst := PW.start w
  go_enter Try.func3, Try.ntmps3
  go_wp2_with (go_at_call 5; refine (proposal_any _).mono ?_; rintro e w2 ⟨rfl, rfl⟩)
  go_loopw [3, 4] (fun t3 t4 wr => ∃ i : Nat, i ≤ 10 ∧ t4 = .int .i64 i ∧ t3 = .int .i64 (lastA i) ∧ PW w (seenAt i) wr) (fun _ t4 _ => 10 - (intOf t4).toNat)
  case atStart => exact ⟨0, by omega, rfl, rfl, hst⟩
  case round =>
    obtain ⟨i, hi, rfl, rfl, hpw⟩ := hrel
    clear hst
    rcases Nat.lt_or_ge i 10 with hlt | hge
    · match i, hlt with
      | 0, _ =>
        have q0 : wr.cell? ⟨w.heap.size, 0, none⟩ = some (.int .u8 1) := hpw.p 0 (by omega)
        have q1 : wr.cell? ⟨w.heap.size, 1, none⟩ = some (.int .u16 12) := hpw.p 1 (by omega)
        have q2 : wr.cell? ⟨w.heap.size, 2, none⟩ = some (.int .u16 256) := hpw.p 2 (by omega)
        have hz1 := hpw.lt
        have hz0 : w.heap.size < wr.heap.size := by omega
        have hT := Bx.mk (TW.start hpw 1 12 256)
        clear hpw
        go_wp2
        clear q0 q1 q2
        generalize wr.alloc (.cells #[.int .u8 1, .int .u16 12, .int .u16 256] 28) = W0 at *
        generalize wr.heap.size = T at *
        have t0 := hT.out.c0
        have qs : W0.cell? ⟨w.heap.size + 1, 1, none⟩ = some (.bool false) := hT.out.pw.s 1 (by omega)
        have qf := hT.out.pw.f 1
        go_quiet (fail)
        have HT1 := Bx.mk ((hT.out.drewN nq).see 1 (by omega) (seenAt_length 0))
        go_wp2
        clear t0 qs qf hT
        generalize (W0.drewN nq).setCell ⟨w.heap.size + 1, 1, none⟩ (.bool true) = W1 at *
        go_loopw [6] (fun t6 wx => ∃ j : Nat, j ≤ 0 ∧ t6 = .int .i64 j ∧ Bx (TW w (seenAt 1) 1 12 256 T wx)) (fun t6 _ => 0 - (intOf t6).toNat)
        case atStart => exact ⟨0, by omega, rfl, HT1⟩
        case round =>
          obtain ⟨j, hj, rfl, HT2⟩ := hrel
          clear HT1
          rcases Nat.lt_or_ge j 0 with hltj | hgej
          · omega
          · have hje : j = 0 := by omega
            subst hje
            have t0 := HT2.out.c0
            have t1 := HT2.out.c1
            have t2 := HT2.out.c2
            go_wp2
            go_roundw
            case rel => exact ⟨1, by omega, rfl, rfl, HT2.out.pw⟩
            case measure => simp [intOf]
      | 1, _ =>
        have q0 : wr.cell? ⟨w.heap.size, 3, none⟩ = some (.int .u8 1) := hpw.p 3 (by omega)
        have q1 : wr.cell? ⟨w.heap.size, 4, none⟩ = some (.int .u16 12) := hpw.p 4 (by omega)
        have q2 : wr.cell? ⟨w.heap.size, 5, none⟩ = some (.int .u16 128) := hpw.p 5 (by omega)
        have hz1 := hpw.lt
        have hz0 : w.heap.size < wr.heap.size := by omega
        have hT := Bx.mk (TW.start hpw 1 12 128)
        clear hpw
        go_wp2
        clear q0 q1 q2
        generalize wr.alloc (.cells #[.int .u8 1, .int .u16 12, .int .u16 128] 28) = W0 at *
        generalize wr.heap.size = T at *
        have t0 := hT.out.c0
        have qp : W0.cell? ⟨w.heap.size, 0, none⟩ = some (.int .u8 1) := hT.out.pw.p 0 (by omega)
        have qs : W0.cell? ⟨w.heap.size + 1, 1, none⟩ = some (.bool true) := hT.out.pw.s 1 (by omega)
        have qf := hT.out.pw.f 1
        go_quiet (fail)
        have HT1 := Bx.mk ((hT.out.drewN nq).see 1 (by omega) (seenAt_length 1))
        go_wp2
        clear t0 qs qf hT qp
        generalize (W0.drewN nq).setCell ⟨w.heap.size + 1, 1, none⟩ (.bool true) = W1 at *
        go_loopw [6] (fun t6 wx => ∃ j : Nat, j ≤ 1 ∧ t6 = .int .i64 j ∧ Bx (TW w (seenAt 2) 1 12 128 T wx)) (fun t6 _ => 1 - (intOf t6).toNat)
        case atStart => exact ⟨0, by omega, rfl, HT1⟩
        case round =>
          obtain ⟨j, hj, rfl, HT2⟩ := hrel
          clear HT1
          rcases Nat.lt_or_ge j 1 with hltj | hgej
          · match j, hltj with
            | 0, _ =>
              have r0 : wr.cell? ⟨w.heap.size, 0, none⟩ = some (.int .u8 1) := HT2.out.pw.p 0 (by omega)
              have r1 : wr.cell? ⟨w.heap.size, 1, none⟩ = some (.int .u16 12) := HT2.out.pw.p 1 (by omega)
              have r2 : wr.cell? ⟨w.heap.size, 2, none⟩ = some (.int .u16 256) := HT2.out.pw.p 2 (by omega)
              have t0 := HT2.out.c0
              have t1 := HT2.out.c1
              have t2 := HT2.out.c2
              have hh28 := held28
              have hg28 := guard28
              go_wp2
              go_quiet (fail)
              go_wp2
              go_roundw
              case rel => exact ⟨1, by omega, rfl, ⟨HT2.out.drewN _⟩⟩
              case measure => simp [intOf]
          · have hje : j = 1 := by omega
            subst hje
            have t0 := HT2.out.c0
            have t1 := HT2.out.c1
            have t2 := HT2.out.c2
            go_wp2
            go_roundw
            case rel => exact ⟨2, by omega, rfl, rfl, HT2.out.pw⟩
            case measure => simp [intOf]
      | 2, _ =>
        have q0 : wr.cell? ⟨w.heap.size, 6, none⟩ = some (.int .u8 3) := hpw.p 6 (by omega)
        have q1 : wr.cell? ⟨w.heap.size, 7, none⟩ = some (.int .u16 12) := hpw.p 7 (by omega)
        have q2 : wr.cell? ⟨w.heap.size, 8, none⟩ = some (.int .u16 0) := hpw.p 8 (by omega)
        have hz1 := hpw.lt
        have hz0 : w.heap.size < wr.heap.size := by omega
        have hT := Bx.mk (TW.start hpw 3 12 0)
        clear hpw
        go_wp2
        clear q0 q1 q2
        generalize wr.alloc (.cells #[.int .u8 3, .int .u16 12, .int .u16 0] 28) = W0 at *
        generalize wr.heap.size = T at *
        have t0 := hT.out.c0
        have qp : W0.cell? ⟨w.heap.size, 3, none⟩ = some (.int .u8 1) := hT.out.pw.p 3 (by omega)
        have qs : W0.cell? ⟨w.heap.size + 1, 3, none⟩ = some (.bool false) := hT.out.pw.s 3 (by omega)
        have qf := hT.out.pw.f 3
        go_quiet (fail)
        have HT1 := Bx.mk ((hT.out.drewN nq).see 3 (by omega) (seenAt_length 2))
        go_wp2
        clear t0 qs qf hT qp
        generalize (W0.drewN nq).setCell ⟨w.heap.size + 1, 3, none⟩ (.bool true) = W1 at *
        go_loopw [6] (fun t6 wx => ∃ j : Nat, j ≤ 2 ∧ t6 = .int .i64 j ∧ Bx (TW w (seenAt 3) 3 12 0 T wx)) (fun t6 _ => 2 - (intOf t6).toNat)
        case atStart => exact ⟨0, by omega, rfl, HT1⟩
        case round =>
          obtain ⟨j, hj, rfl, HT2⟩ := hrel
          clear HT1
          rcases Nat.lt_or_ge j 2 with hltj | hgej
          · match j, hltj with
            | 0, _ =>
              have r0 : wr.cell? ⟨w.heap.size, 0, none⟩ = some (.int .u8 1) := HT2.out.pw.p 0 (by omega)
              have r1 : wr.cell? ⟨w.heap.size, 1, none⟩ = some (.int .u16 12) := HT2.out.pw.p 1 (by omega)
              have r2 : wr.cell? ⟨w.heap.size, 2, none⟩ = some (.int .u16 256) := HT2.out.pw.p 2 (by omega)
              have t0 := HT2.out.c0
              have t1 := HT2.out.c1
              have t2 := HT2.out.c2
              have hh28 := held28
              have hg28 := guard28
              go_wp2
              go_quiet (fail)
              go_wp2
              go_roundw
              case rel => exact ⟨1, by omega, rfl, ⟨HT2.out.drewN _⟩⟩
              case measure => simp [intOf]
            | 1, _ =>
              have r0 : wr.cell? ⟨w.heap.size, 3, none⟩ = some (.int .u8 1) := HT2.out.pw.p 3 (by omega)
              have r1 : wr.cell? ⟨w.heap.size, 4, none⟩ = some (.int .u16 12) := HT2.out.pw.p 4 (by omega)
              have r2 : wr.cell? ⟨w.heap.size, 5, none⟩ = some (.int .u16 128) := HT2.out.pw.p 5 (by omega)
              have t0 := HT2.out.c0
              have t1 := HT2.out.c1
              have t2 := HT2.out.c2
              have hh28 := held28
              have hg28 := guard28
              go_wp2
              go_quiet (fail)
              go_wp2
              go_roundw
              case rel => exact ⟨2, by omega, rfl, ⟨HT2.out.drewN _⟩⟩
              case measure => simp [intOf]
          · have hje : j = 2 := by omega
            subst hje
            have t0 := HT2.out.c0
            have t1 := HT2.out.c1
            have t2 := HT2.out.c2
            go_wp2
            go_roundw
            case rel => exact ⟨3, by omega, rfl, rfl, HT2.out.pw⟩
            case measure => simp [intOf]
      | 3, _ =>
        have q0 : wr.cell? ⟨w.heap.size, 9, none⟩ = some (.int .u8 3) := hpw.p 9 (by omega)
        have q1 : wr.cell? ⟨w.heap.size, 10, none⟩ = some (.int .u16 13) := hpw.p 10 (by omega)
        have q2 : wr.cell? ⟨w.heap.size, 11, none⟩ = some (.int .u16 0) := hpw.p 11 (by omega)
        have hz1 := hpw.lt
        have hz0 : w.heap.size < wr.heap.size := by omega
        have hT := Bx.mk (TW.start hpw 3 13 0)
        clear hpw
        go_wp2
        clear q0 q1 q2
        generalize wr.alloc (.cells #[.int .u8 3, .int .u16 13, .int .u16 0] 28) = W0 at *
        generalize wr.heap.size = T at *
        have t0 := hT.out.c0
        have qp : W0.cell? ⟨w.heap.size, 6, none⟩ = some (.int .u8 3) := hT.out.pw.p 6 (by omega)
        have qs : W0.cell? ⟨w.heap.size + 1, 3, none⟩ = some (.bool true) := hT.out.pw.s 3 (by omega)
        have qf := hT.out.pw.f 3
        go_quiet (fail)
        have HT1 := Bx.mk ((hT.out.drewN nq).see 3 (by omega) (seenAt_length 3))
        go_wp2
        clear t0 qs qf hT qp
        generalize (W0.drewN nq).setCell ⟨w.heap.size + 1, 3, none⟩ (.bool true) = W1 at *
        go_loopw [6] (fun t6 wx => ∃ j : Nat, j ≤ 3 ∧ t6 = .int .i64 j ∧ Bx (TW w (seenAt 4) 3 13 0 T wx)) (fun t6 _ => 3 - (intOf t6).toNat)
        case atStart => exact ⟨0, by omega, rfl, HT1⟩
        case round =>
          obtain ⟨j, hj, rfl, HT2⟩ := hrel
          clear HT1
          rcases Nat.lt_or_ge j 3 with hltj | hgej
          · match j, hltj with
            | 0, _ =>
              have r0 : wr.cell? ⟨w.heap.size, 0, none⟩ = some (.int .u8 1) := HT2.out.pw.p 0 (by omega)
              have r1 : wr.cell? ⟨w.heap.size, 1, none⟩ = some (.int .u16 12) := HT2.out.pw.p 1 (by omega)
              have r2 : wr.cell? ⟨w.heap.size, 2, none⟩ = some (.int .u16 256) := HT2.out.pw.p 2 (by omega)
              have t0 := HT2.out.c0
              have t1 := HT2.out.c1
              have t2 := HT2.out.c2
              have hh28 := held28
              have hg28 := guard28
              go_wp2
              go_quiet (fail)
              go_wp2
              go_roundw
              case rel => exact ⟨1, by omega, rfl, ⟨HT2.out.drewN _⟩⟩
              case measure => simp [intOf]
            | 1, _ =>
              have r0 : wr.cell? ⟨w.heap.size, 3, none⟩ = some (.int .u8 1) := HT2.out.pw.p 3 (by omega)
              have r1 : wr.cell? ⟨w.heap.size, 4, none⟩ = some (.int .u16 12) := HT2.out.pw.p 4 (by omega)
              have r2 : wr.cell? ⟨w.heap.size, 5, none⟩ = some (.int .u16 128) := HT2.out.pw.p 5 (by omega)
              have t0 := HT2.out.c0
              have t1 := HT2.out.c1
              have t2 := HT2.out.c2
              have hh28 := held28
              have hg28 := guard28
              go_wp2
              go_quiet (fail)
              go_wp2
              go_roundw
              case rel => exact ⟨2, by omega, rfl, ⟨HT2.out.drewN _⟩⟩
              case measure => simp [intOf]
            | 2, _ =>
              have r0 : wr.cell? ⟨w.heap.size, 6, none⟩ = some (.int .u8 3) := HT2.out.pw.p 6 (by omega)
              have r1 : wr.cell? ⟨w.heap.size, 7, none⟩ = some (.int .u16 12) := HT2.out.pw.p 7 (by omega)
              have r2 : wr.cell? ⟨w.heap.size, 8, none⟩ = some (.int .u16 0) := HT2.out.pw.p 8 (by omega)
              have t0 := HT2.out.c0
              have t1 := HT2.out.c1
              have t2 := HT2.out.c2
              have hh28 := held28
              have hg28 := guard28
              go_wp2
              go_quiet (fail)
              go_wp2
              go_roundw
              case rel => exact ⟨3, by omega, rfl, ⟨HT2.out.drewN _⟩⟩
              case measure => simp [intOf]
          · have hje : j = 3 := by omega
            subst hje
            have t0 := HT2.out.c0
            have t1 := HT2.out.c1
            have t2 := HT2.out.c2
            go_wp2
            go_roundw
            case rel => exact ⟨4, by omega, rfl, rfl, HT2.out.pw⟩
            case measure => simp [intOf]
      | 4, _ =>
        have q0 : wr.cell? ⟨w.heap.size, 12, none⟩ = some (.int .u8 2) := hpw.p 12 (by omega)
        have q1 : wr.cell? ⟨w.heap.size, 13, none⟩ = some (.int .u16 5) := hpw.p 13 (by omega)
        have q2 : wr.cell? ⟨w.heap.size, 14, none⟩ = some (.int .u16 0) := hpw.p 14 (by omega)
        have hz1 := hpw.lt
        have hz0 : w.heap.size < wr.heap.size := by omega
        have hT := Bx.mk (TW.start hpw 2 5 0)
        clear hpw
        go_wp2
        clear q0 q1 q2
        generalize wr.alloc (.cells #[.int .u8 2, .int .u16 5, .int .u16 0] 28) = W0 at *
        generalize wr.heap.size = T at *
        have t0 := hT.out.c0
        have qp : W0.cell? ⟨w.heap.size, 9, none⟩ = some (.int .u8 3) := hT.out.pw.p 9 (by omega)
        have qs : W0.cell? ⟨w.heap.size + 1, 2, none⟩ = some (.bool false) := hT.out.pw.s 2 (by omega)
        have qf := hT.out.pw.f 2
        go_quiet (fail)
        have HT1 := Bx.mk ((hT.out.drewN nq).see 2 (by omega) (seenAt_length 4))
        go_wp2
        clear t0 qs qf hT qp
        generalize (W0.drewN nq).setCell ⟨w.heap.size + 1, 2, none⟩ (.bool true) = W1 at *
        go_loopw [6] (fun t6 wx => ∃ j : Nat, j ≤ 4 ∧ t6 = .int .i64 j ∧ Bx (TW w (seenAt 5) 2 5 0 T wx)) (fun t6 _ => 4 - (intOf t6).toNat)
        case atStart => exact ⟨0, by omega, rfl, HT1⟩
        case round =>
          obtain ⟨j, hj, rfl, HT2⟩ := hrel
          clear HT1
          rcases Nat.lt_or_ge j 4 with hltj | hgej
          · match j, hltj with
            | 0, _ =>
              have r0 : wr.cell? ⟨w.heap.size, 0, none⟩ = some (.int .u8 1) := HT2.out.pw.p 0 (by omega)
              have r1 : wr.cell? ⟨w.heap.size, 1, none⟩ = some (.int .u16 12) := HT2.out.pw.p 1 (by omega)
              have r2 : wr.cell? ⟨w.heap.size, 2, none⟩ = some (.int .u16 256) := HT2.out.pw.p 2 (by omega)
              have t0 := HT2.out.c0
              have t1 := HT2.out.c1
              have t2 := HT2.out.c2
              have hh28 := held28
              have hg28 := guard28
              go_wp2
              go_quiet (fail)
              go_wp2
              go_roundw
              case rel => exact ⟨1, by omega, rfl, ⟨HT2.out.drewN _⟩⟩
              case measure => simp [intOf]
            | 1, _ =>
              have r0 : wr.cell? ⟨w.heap.size, 3, none⟩ = some (.int .u8 1) := HT2.out.pw.p 3 (by omega)
              have r1 : wr.cell? ⟨w.heap.size, 4, none⟩ = some (.int .u16 12) := HT2.out.pw.p 4 (by omega)
              have r2 : wr.cell? ⟨w.heap.size, 5, none⟩ = some (.int .u16 128) := HT2.out.pw.p 5 (by omega)
              have t0 := HT2.out.c0
              have t1 := HT2.out.c1
              have t2 := HT2.out.c2
              have hh28 := held28
              have hg28 := guard28
              go_wp2
              go_quiet (fail)
              go_wp2
              go_roundw
              case rel => exact ⟨2, by omega, rfl, ⟨HT2.out.drewN _⟩⟩
              case measure => simp [intOf]
            | 2, _ =>
              have r0 : wr.cell? ⟨w.heap.size, 6, none⟩ = some (.int .u8 3) := HT2.out.pw.p 6 (by omega)
              have r1 : wr.cell? ⟨w.heap.size, 7, none⟩ = some (.int .u16 12) := HT2.out.pw.p 7 (by omega)
              have r2 : wr.cell? ⟨w.heap.size, 8, none⟩ = some (.int .u16 0) := HT2.out.pw.p 8 (by omega)
              have t0 := HT2.out.c0
              have t1 := HT2.out.c1
              have t2 := HT2.out.c2
              have hh28 := held28
              have hg28 := guard28
              go_wp2
              go_quiet (fail)
              go_wp2
              go_roundw
              case rel => exact ⟨3, by omega, rfl, ⟨HT2.out.drewN _⟩⟩
              case measure => simp [intOf]
            | 3, _ =>
              have r0 : wr.cell? ⟨w.heap.size, 9, none⟩ = some (.int .u8 3) := HT2.out.pw.p 9 (by omega)
              have r1 : wr.cell? ⟨w.heap.size, 10, none⟩ = some (.int .u16 13) := HT2.out.pw.p 10 (by omega)
              have r2 : wr.cell? ⟨w.heap.size, 11, none⟩ = some (.int .u16 0) := HT2.out.pw.p 11 (by omega)
              have t0 := HT2.out.c0
              have t1 := HT2.out.c1
              have t2 := HT2.out.c2
              have hh28 := held28
              have hg28 := guard28
              go_wp2
              go_quiet (fail)
              go_wp2
              go_roundw
              case rel => exact ⟨4, by omega, rfl, ⟨HT2.out.drewN _⟩⟩
              case measure => simp [intOf]
          · have hje : j = 4 := by omega
            subst hje
            have t0 := HT2.out.c0
            have t1 := HT2.out.c1
            have t2 := HT2.out.c2
            go_wp2
            go_roundw
            case rel => exact ⟨5, by omega, rfl, rfl, HT2.out.pw⟩
            case measure => simp [intOf]
      | 5, _ =>
        have q0 : wr.cell? ⟨w.heap.size, 15, none⟩ = some (.int .u8 2) := hpw.p 15 (by omega)
        have q1 : wr.cell? ⟨w.heap.size, 16, none⟩ = some (.int .u16 6) := hpw.p 16 (by omega)
        have q2 : wr.cell? ⟨w.heap.size, 17, none⟩ = some (.int .u16 0) := hpw.p 17 (by omega)
        have hz1 := hpw.lt
        have hz0 : w.heap.size < wr.heap.size := by omega
        have hT := Bx.mk (TW.start hpw 2 6 0)
        clear hpw
        go_wp2
        clear q0 q1 q2
        generalize wr.alloc (.cells #[.int .u8 2, .int .u16 6, .int .u16 0] 28) = W0 at *
        generalize wr.heap.size = T at *
        have t0 := hT.out.c0
        have qp : W0.cell? ⟨w.heap.size, 12, none⟩ = some (.int .u8 2) := hT.out.pw.p 12 (by omega)
        have qs : W0.cell? ⟨w.heap.size + 1, 2, none⟩ = some (.bool true) := hT.out.pw.s 2 (by omega)
        have qf := hT.out.pw.f 2
        go_quiet (fail)
        have HT1 := Bx.mk ((hT.out.drewN nq).see 2 (by omega) (seenAt_length 5))
        go_wp2
        clear t0 qs qf hT qp
        generalize (W0.drewN nq).setCell ⟨w.heap.size + 1, 2, none⟩ (.bool true) = W1 at *
        go_loopw [6] (fun t6 wx => ∃ j : Nat, j ≤ 5 ∧ t6 = .int .i64 j ∧ Bx (TW w (seenAt 6) 2 6 0 T wx)) (fun t6 _ => 5 - (intOf t6).toNat)
        case atStart => exact ⟨0, by omega, rfl, HT1⟩
        case round =>
          obtain ⟨j, hj, rfl, HT2⟩ := hrel
          clear HT1
          rcases Nat.lt_or_ge j 5 with hltj | hgej
          · match j, hltj with
            | 0, _ =>
              have r0 : wr.cell? ⟨w.heap.size, 0, none⟩ = some (.int .u8 1) := HT2.out.pw.p 0 (by omega)
              have r1 : wr.cell? ⟨w.heap.size, 1, none⟩ = some (.int .u16 12) := HT2.out.pw.p 1 (by omega)
              have r2 : wr.cell? ⟨w.heap.size, 2, none⟩ = some (.int .u16 256) := HT2.out.pw.p 2 (by omega)
              have t0 := HT2.out.c0
              have t1 := HT2.out.c1
              have t2 := HT2.out.c2
              have hh28 := held28
              have hg28 := guard28
              go_wp2
              go_quiet (fail)
              go_wp2
              go_roundw
              case rel => exact ⟨1, by omega, rfl, ⟨HT2.out.drewN _⟩⟩
              case measure => simp [intOf]
            | 1, _ =>
              have r0 : wr.cell? ⟨w.heap.size, 3, none⟩ = some (.int .u8 1) := HT2.out.pw.p 3 (by omega)
              have r1 : wr.cell? ⟨w.heap.size, 4, none⟩ = some (.int .u16 12) := HT2.out.pw.p 4 (by omega)
              have r2 : wr.cell? ⟨w.heap.size, 5, none⟩ = some (.int .u16 128) := HT2.out.pw.p 5 (by omega)
              have t0 := HT2.out.c0
              have t1 := HT2.out.c1
              have t2 := HT2.out.c2
              have hh28 := held28
              have hg28 := guard28
              go_wp2
              go_quiet (fail)
              go_wp2
              go_roundw
              case rel => exact ⟨2, by omega, rfl, ⟨HT2.out.drewN _⟩⟩
              case measure => simp [intOf]
            | 2, _ =>
              have r0 : wr.cell? ⟨w.heap.size, 6, none⟩ = some (.int .u8 3) := HT2.out.pw.p 6 (by omega)
              have r1 : wr.cell? ⟨w.heap.size, 7, none⟩ = some (.int .u16 12) := HT2.out.pw.p 7 (by omega)
              have r2 : wr.cell? ⟨w.heap.size, 8, none⟩ = some (.int .u16 0) := HT2.out.pw.p 8 (by omega)
              have t0 := HT2.out.c0
              have t1 := HT2.out.c1
              have t2 := HT2.out.c2
              have hh28 := held28
              have hg28 := guard28
              go_wp2
              go_quiet (fail)
              go_wp2
              go_roundw
              case rel => exact ⟨3, by omega, rfl, ⟨HT2.out.drewN _⟩⟩
              case measure => simp [intOf]
            | 3, _ =>
              have r0 : wr.cell? ⟨w.heap.size, 9, none⟩ = some (.int .u8 3) := HT2.out.pw.p 9 (by omega)
              have r1 : wr.cell? ⟨w.heap.size, 10, none⟩ = some (.int .u16 13) := HT2.out.pw.p 10 (by omega)
              have r2 : wr.cell? ⟨w.heap.size, 11, none⟩ = some (.int .u16 0) := HT2.out.pw.p 11 (by omega)
              have t0 := HT2.out.c0
              have t1 := HT2.out.c1
              have t2 := HT2.out.c2
              have hh28 := held28
              have hg28 := guard28
              go_wp2
              go_quiet (fail)
              go_wp2
              go_roundw
              case rel => exact ⟨4, by omega, rfl, ⟨HT2.out.drewN _⟩⟩
              case measure => simp [intOf]
            | 4, _ =>
              have r0 : wr.cell? ⟨w.heap.size, 12, none⟩ = some (.int .u8 2) := HT2.out.pw.p 12 (by omega)
              have r1 : wr.cell? ⟨w.heap.size, 13, none⟩ = some (.int .u16 5) := HT2.out.pw.p 13 (by omega)
              have r2 : wr.cell? ⟨w.heap.size, 14, none⟩ = some (.int .u16 0) := HT2.out.pw.p 14 (by omega)
              have t0 := HT2.out.c0
              have t1 := HT2.out.c1
              have t2 := HT2.out.c2
              have hh28 := held28
              have hg28 := guard28
              go_wp2
              go_quiet (fail)
              go_wp2
              go_roundw
              case rel => exact ⟨5, by omega, rfl, ⟨HT2.out.drewN _⟩⟩
              case measure => simp [intOf]
          · have hje : j = 5 := by omega
            subst hje
            have t0 := HT2.out.c0
            have t1 := HT2.out.c1
            have t2 := HT2.out.c2
            go_wp2
            go_roundw
            case rel => exact ⟨6, by omega, rfl, rfl, HT2.out.pw⟩
            case measure => simp [intOf]
      | 6, _ =>
        have q0 : wr.cell? ⟨w.heap.size, 18, none⟩ = some (.int .u8 4) := hpw.p 18 (by omega)
        have q1 : wr.cell? ⟨w.heap.size, 19, none⟩ = some (.int .u16 31) := hpw.p 19 (by omega)
        have q2 : wr.cell? ⟨w.heap.size, 20, none⟩ = some (.int .u16 0) := hpw.p 20 (by omega)
        have hz1 := hpw.lt
        have hz0 : w.heap.size < wr.heap.size := by omega
        have hT := Bx.mk (TW.start hpw 4 31 0)
        clear hpw
        go_wp2
        clear q0 q1 q2
        generalize wr.alloc (.cells #[.int .u8 4, .int .u16 31, .int .u16 0] 28) = W0 at *
        generalize wr.heap.size = T at *
        have t0 := hT.out.c0
        have qp : W0.cell? ⟨w.heap.size, 15, none⟩ = some (.int .u8 2) := hT.out.pw.p 15 (by omega)
        have qs : W0.cell? ⟨w.heap.size + 1, 4, none⟩ = some (.bool false) := hT.out.pw.s 4 (by omega)
        have qf := hT.out.pw.f 4
        go_quiet (fail)
        have HT1 := Bx.mk ((hT.out.drewN nq).see 4 (by omega) (seenAt_length 6))
        go_wp2
        clear t0 qs qf hT qp
        generalize (W0.drewN nq).setCell ⟨w.heap.size + 1, 4, none⟩ (.bool true) = W1 at *
        go_loopw [6] (fun t6 wx => ∃ j : Nat, j ≤ 6 ∧ t6 = .int .i64 j ∧ Bx (TW w (seenAt 7) 4 31 0 T wx)) (fun t6 _ => 6 - (intOf t6).toNat)
        case atStart => exact ⟨0, by omega, rfl, HT1⟩
        case round =>
          obtain ⟨j, hj, rfl, HT2⟩ := hrel
          clear HT1
          rcases Nat.lt_or_ge j 6 with hltj | hgej
          · match j, hltj with
            | 0, _ =>
              have r0 : wr.cell? ⟨w.heap.size, 0, none⟩ = some (.int .u8 1) := HT2.out.pw.p 0 (by omega)
              have r1 : wr.cell? ⟨w.heap.size, 1, none⟩ = some (.int .u16 12) := HT2.out.pw.p 1 (by omega)
              have r2 : wr.cell? ⟨w.heap.size, 2, none⟩ = some (.int .u16 256) := HT2.out.pw.p 2 (by omega)
              have t0 := HT2.out.c0
              have t1 := HT2.out.c1
              have t2 := HT2.out.c2
              have hh28 := held28
              have hg28 := guard28
              go_wp2
              go_quiet (fail)
              go_wp2
              go_roundw
              case rel => exact ⟨1, by omega, rfl, ⟨HT2.out.drewN _⟩⟩
              case measure => simp [intOf]
            | 1, _ =>
              have r0 : wr.cell? ⟨w.heap.size, 3, none⟩ = some (.int .u8 1) := HT2.out.pw.p 3 (by omega)
              have r1 : wr.cell? ⟨w.heap.size, 4, none⟩ = some (.int .u16 12) := HT2.out.pw.p 4 (by omega)
              have r2 : wr.cell? ⟨w.heap.size, 5, none⟩ = some (.int .u16 128) := HT2.out.pw.p 5 (by omega)
              have t0 := HT2.out.c0
              have t1 := HT2.out.c1
              have t2 := HT2.out.c2
              have hh28 := held28
              have hg28 := guard28
              go_wp2
              go_quiet (fail)
              go_wp2
              go_roundw
              case rel => exact ⟨2, by omega, rfl, ⟨HT2.out.drewN _⟩⟩
              case measure => simp [intOf]
            | 2, _ =>
              have r0 : wr.cell? ⟨w.heap.size, 6, none⟩ = some (.int .u8 3) := HT2.out.pw.p 6 (by omega)
              have r1 : wr.cell? ⟨w.heap.size, 7, none⟩ = some (.int .u16 12) := HT2.out.pw.p 7 (by omega)
              have r2 : wr.cell? ⟨w.heap.size, 8, none⟩ = some (.int .u16 0) := HT2.out.pw.p 8 (by omega)
              have t0 := HT2.out.c0
              have t1 := HT2.out.c1
              have t2 := HT2.out.c2
              have hh28 := held28
              have hg28 := guard28
              go_wp2
              go_quiet (fail)
              go_wp2
              go_roundw
              case rel => exact ⟨3, by omega, rfl, ⟨HT2.out.drewN _⟩⟩
              case measure => simp [intOf]
            | 3, _ =>
              have r0 : wr.cell? ⟨w.heap.size, 9, none⟩ = some (.int .u8 3) := HT2.out.pw.p 9 (by omega)
              have r1 : wr.cell? ⟨w.heap.size, 10, none⟩ = some (.int .u16 13) := HT2.out.pw.p 10 (by omega)
              have r2 : wr.cell? ⟨w.heap.size, 11, none⟩ = some (.int .u16 0) := HT2.out.pw.p 11 (by omega)
              have t0 := HT2.out.c0
              have t1 := HT2.out.c1
              have t2 := HT2.out.c2
              have hh28 := held28
              have hg28 := guard28
              go_wp2
              go_quiet (fail)
              go_wp2
              go_roundw
              case rel => exact ⟨4, by omega, rfl, ⟨HT2.out.drewN _⟩⟩
              case measure => simp [intOf]
            | 4, _ =>
              have r0 : wr.cell? ⟨w.heap.size, 12, none⟩ = some (.int .u8 2) := HT2.out.pw.p 12 (by omega)
              have r1 : wr.cell? ⟨w.heap.size, 13, none⟩ = some (.int .u16 5) := HT2.out.pw.p 13 (by omega)
              have r2 : wr.cell? ⟨w.heap.size, 14, none⟩ = some (.int .u16 0) := HT2.out.pw.p 14 (by omega)
              have t0 := HT2.out.c0
              have t1 := HT2.out.c1
              have t2 := HT2.out.c2
              have hh28 := held28
              have hg28 := guard28
              go_wp2
              go_quiet (fail)
              go_wp2
              go_roundw
              case rel => exact ⟨5, by omega, rfl, ⟨HT2.out.drewN _⟩⟩
              case measure => simp [intOf]
            | 5, _ =>
              have r0 : wr.cell? ⟨w.heap.size, 15, none⟩ = some (.int .u8 2) := HT2.out.pw.p 15 (by omega)
              have r1 : wr.cell? ⟨w.heap.size, 16, none⟩ = some (.int .u16 6) := HT2.out.pw.p 16 (by omega)
              have r2 : wr.cell? ⟨w.heap.size, 17, none⟩ = some (.int .u16 0) := HT2.out.pw.p 17 (by omega)
              have t0 := HT2.out.c0
              have t1 := HT2.out.c1
              have t2 := HT2.out.c2
              have hh28 := held28
              have hg28 := guard28
              go_wp2
              go_quiet (fail)
              go_wp2
              go_roundw
              case rel => exact ⟨6, by omega, rfl, ⟨HT2.out.drewN _⟩⟩
              case measure => simp [intOf]
          · have hje : j = 6 := by omega
            subst hje
            have t0 := HT2.out.c0
            have t1 := HT2.out.c1
            have t2 := HT2.out.c2
            go_wp2
            go_roundw
            case rel => exact ⟨7, by omega, rfl, rfl, HT2.out.pw⟩
            case measure => simp [intOf]
      | 7, _ =>
        have q0 : wr.cell? ⟨w.heap.size, 21, none⟩ = some (.int .u8 4) := hpw.p 21 (by omega)
        have q1 : wr.cell? ⟨w.heap.size, 22, none⟩ = some (.int .u16 19) := hpw.p 22 (by omega)
        have q2 : wr.cell? ⟨w.heap.size, 23, none⟩ = some (.int .u16 0) := hpw.p 23 (by omega)
        have hz1 := hpw.lt
        have hz0 : w.heap.size < wr.heap.size := by omega
        have hT := Bx.mk (TW.start hpw 4 19 0)
        clear hpw
        go_wp2
        clear q0 q1 q2
        generalize wr.alloc (.cells #[.int .u8 4, .int .u16 19, .int .u16 0] 28) = W0 at *
        generalize wr.heap.size = T at *
        have t0 := hT.out.c0
        have qp : W0.cell? ⟨w.heap.size, 18, none⟩ = some (.int .u8 4) := hT.out.pw.p 18 (by omega)
        have qs : W0.cell? ⟨w.heap.size + 1, 4, none⟩ = some (.bool true) := hT.out.pw.s 4 (by omega)
        have qf := hT.out.pw.f 4
        go_quiet (fail)
        have HT1 := Bx.mk ((hT.out.drewN nq).see 4 (by omega) (seenAt_length 7))
        go_wp2
        clear t0 qs qf hT qp
        generalize (W0.drewN nq).setCell ⟨w.heap.size + 1, 4, none⟩ (.bool true) = W1 at *
        go_loopw [6] (fun t6 wx => ∃ j : Nat, j ≤ 7 ∧ t6 = .int .i64 j ∧ Bx (TW w (seenAt 8) 4 19 0 T wx)) (fun t6 _ => 7 - (intOf t6).toNat)
        case atStart => exact ⟨0, by omega, rfl, HT1⟩
        case round =>
          obtain ⟨j, hj, rfl, HT2⟩ := hrel
          clear HT1
          rcases Nat.lt_or_ge j 7 with hltj | hgej
          · match j, hltj with
            | 0, _ =>
              have r0 : wr.cell? ⟨w.heap.size, 0, none⟩ = some (.int .u8 1) := HT2.out.pw.p 0 (by omega)
              have r1 : wr.cell? ⟨w.heap.size, 1, none⟩ = some (.int .u16 12) := HT2.out.pw.p 1 (by omega)
              have r2 : wr.cell? ⟨w.heap.size, 2, none⟩ = some (.int .u16 256) := HT2.out.pw.p 2 (by omega)
              have t0 := HT2.out.c0
              have t1 := HT2.out.c1
              have t2 := HT2.out.c2
              have hh28 := held28
              have hg28 := guard28
              go_wp2
              go_quiet (fail)
              go_wp2
              go_roundw
              case rel => exact ⟨1, by omega, rfl, ⟨HT2.out.drewN _⟩⟩
              case measure => simp [intOf]
            | 1, _ =>
              have r0 : wr.cell? ⟨w.heap.size, 3, none⟩ = some (.int .u8 1) := HT2.out.pw.p 3 (by omega)
              have r1 : wr.cell? ⟨w.heap.size, 4, none⟩ = some (.int .u16 12) := HT2.out.pw.p 4 (by omega)
              have r2 : wr.cell? ⟨w.heap.size, 5, none⟩ = some (.int .u16 128) := HT2.out.pw.p 5 (by omega)
              have t0 := HT2.out.c0
              have t1 := HT2.out.c1
              have t2 := HT2.out.c2
              have hh28 := held28
              have hg28 := guard28
              go_wp2
              go_quiet (fail)
              go_wp2
              go_roundw
              case rel => exact ⟨2, by omega, rfl, ⟨HT2.out.drewN _⟩⟩
              case measure => simp [intOf]
            | 2, _ =>
              have r0 : wr.cell? ⟨w.heap.size, 6, none⟩ = some (.int .u8 3) := HT2.out.pw.p 6 (by omega)
              have r1 : wr.cell? ⟨w.heap.size, 7, none⟩ = some (.int .u16 12) := HT2.out.pw.p 7 (by omega)
              have r2 : wr.cell? ⟨w.heap.size, 8, none⟩ = some (.int .u16 0) := HT2.out.pw.p 8 (by omega)
              have t0 := HT2.out.c0
              have t1 := HT2.out.c1
              have t2 := HT2.out.c2
              have hh28 := held28
              have hg28 := guard28
              go_wp2
              go_quiet (fail)
              go_wp2
              go_roundw
              case rel => exact ⟨3, by omega, rfl, ⟨HT2.out.drewN _⟩⟩
              case measure => simp [intOf]
            | 3, _ =>
              have r0 : wr.cell? ⟨w.heap.size, 9, none⟩ = some (.int .u8 3) := HT2.out.pw.p 9 (by omega)
              have r1 : wr.cell? ⟨w.heap.size, 10, none⟩ = some (.int .u16 13) := HT2.out.pw.p 10 (by omega)
              have r2 : wr.cell? ⟨w.heap.size, 11, none⟩ = some (.int .u16 0) := HT2.out.pw.p 11 (by omega)
              have t0 := HT2.out.c0
              have t1 := HT2.out.c1
              have t2 := HT2.out.c2
              have hh28 := held28
              have hg28 := guard28
              go_wp2
              go_quiet (fail)
              go_wp2
              go_roundw
              case rel => exact ⟨4, by omega, rfl, ⟨HT2.out.drewN _⟩⟩
              case measure => simp [intOf]
            | 4, _ =>
              have r0 : wr.cell? ⟨w.heap.size, 12, none⟩ = some (.int .u8 2) := HT2.out.pw.p 12 (by omega)
              have r1 : wr.cell? ⟨w.heap.size, 13, none⟩ = some (.int .u16 5) := HT2.out.pw.p 13 (by omega)
              have r2 : wr.cell? ⟨w.heap.size, 14, none⟩ = some (.int .u16 0) := HT2.out.pw.p 14 (by omega)
              have t0 := HT2.out.c0
              have t1 := HT2.out.c1
              have t2 := HT2.out.c2
              have hh28 := held28
              have hg28 := guard28
              go_wp2
              go_quiet (fail)
              go_wp2
              go_roundw
              case rel => exact ⟨5, by omega, rfl, ⟨HT2.out.drewN _⟩⟩
              case measure => simp [intOf]
            | 5, _ =>
              have r0 : wr.cell? ⟨w.heap.size, 15, none⟩ = some (.int .u8 2) := HT2.out.pw.p 15 (by omega)
              have r1 : wr.cell? ⟨w.heap.size, 16, none⟩ = some (.int .u16 6) := HT2.out.pw.p 16 (by omega)
              have r2 : wr.cell? ⟨w.heap.size, 17, none⟩ = some (.int .u16 0) := HT2.out.pw.p 17 (by omega)
              have t0 := HT2.out.c0
              have t1 := HT2.out.c1
              have t2 := HT2.out.c2
              have hh28 := held28
              have hg28 := guard28
              go_wp2
              go_quiet (fail)
              go_wp2
              go_roundw
              case rel => exact ⟨6, by omega, rfl, ⟨HT2.out.drewN _⟩⟩
              case measure => simp [intOf]
            | 6, _ =>
              have r0 : wr.cell? ⟨w.heap.size, 18, none⟩ = some (.int .u8 4) := HT2.out.pw.p 18 (by omega)
              have r1 : wr.cell? ⟨w.heap.size, 19, none⟩ = some (.int .u16 31) := HT2.out.pw.p 19 (by omega)
              have r2 : wr.cell? ⟨w.heap.size, 20, none⟩ = some (.int .u16 0) := HT2.out.pw.p 20 (by omega)
              have t0 := HT2.out.c0
              have t1 := HT2.out.c1
              have t2 := HT2.out.c2
              have hh28 := held28
              have hg28 := guard28
              go_wp2
              go_quiet (fail)
              go_wp2
              go_roundw
              case rel => exact ⟨7, by omega, rfl, ⟨HT2.out.drewN _⟩⟩
              case measure => simp [intOf]
          · have hje : j = 7 := by omega
            subst hje
            have t0 := HT2.out.c0
            have t1 := HT2.out.c1
            have t2 := HT2.out.c2
            go_wp2
            go_roundw
            case rel => exact ⟨8, by omega, rfl, rfl, HT2.out.pw⟩
            case measure => simp [intOf]
      | 8, _ =>
        have q0 : wr.cell? ⟨w.heap.size, 24, none⟩ = some (.int .u8 4) := hpw.p 24 (by omega)
        have q1 : wr.cell? ⟨w.heap.size, 25, none⟩ = some (.int .u16 20) := hpw.p 25 (by omega)
        have q2 : wr.cell? ⟨w.heap.size, 26, none⟩ = some (.int .u16 0) := hpw.p 26 (by omega)
        have hz1 := hpw.lt
        have hz0 : w.heap.size < wr.heap.size := by omega
        have hT := Bx.mk (TW.start hpw 4 20 0)
        clear hpw
        go_wp2
        clear q0 q1 q2
        generalize wr.alloc (.cells #[.int .u8 4, .int .u16 20, .int .u16 0] 28) = W0 at *
        generalize wr.heap.size = T at *
        have t0 := hT.out.c0
        have qp : W0.cell? ⟨w.heap.size, 21, none⟩ = some (.int .u8 4) := hT.out.pw.p 21 (by omega)
        have qs : W0.cell? ⟨w.heap.size + 1, 4, none⟩ = some (.bool true) := hT.out.pw.s 4 (by omega)
        have qf := hT.out.pw.f 4
        go_quiet (fail)
        have HT1 := Bx.mk ((hT.out.drewN nq).see 4 (by omega) (seenAt_length 8))
        go_wp2
        clear t0 qs qf hT qp
        generalize (W0.drewN nq).setCell ⟨w.heap.size + 1, 4, none⟩ (.bool true) = W1 at *
        go_loopw [6] (fun t6 wx => ∃ j : Nat, j ≤ 8 ∧ t6 = .int .i64 j ∧ Bx (TW w (seenAt 9) 4 20 0 T wx)) (fun t6 _ => 8 - (intOf t6).toNat)
        case atStart => exact ⟨0, by omega, rfl, HT1⟩
        case round =>
          obtain ⟨j, hj, rfl, HT2⟩ := hrel
          clear HT1
          rcases Nat.lt_or_ge j 8 with hltj | hgej
          · match j, hltj with
            | 0, _ =>
              have r0 : wr.cell? ⟨w.heap.size, 0, none⟩ = some (.int .u8 1) := HT2.out.pw.p 0 (by omega)
              have r1 : wr.cell? ⟨w.heap.size, 1, none⟩ = some (.int .u16 12) := HT2.out.pw.p 1 (by omega)
              have r2 : wr.cell? ⟨w.heap.size, 2, none⟩ = some (.int .u16 256) := HT2.out.pw.p 2 (by omega)
              have t0 := HT2.out.c0
              have t1 := HT2.out.c1
              have t2 := HT2.out.c2
              have hh28 := held28
              have hg28 := guard28
              go_wp2
              go_quiet (fail)
              go_wp2
              go_roundw
              case rel => exact ⟨1, by omega, rfl, ⟨HT2.out.drewN _⟩⟩
              case measure => simp [intOf]
            | 1, _ =>
              have r0 : wr.cell? ⟨w.heap.size, 3, none⟩ = some (.int .u8 1) := HT2.out.pw.p 3 (by omega)
              have r1 : wr.cell? ⟨w.heap.size, 4, none⟩ = some (.int .u16 12) := HT2.out.pw.p 4 (by omega)
              have r2 : wr.cell? ⟨w.heap.size, 5, none⟩ = some (.int .u16 128) := HT2.out.pw.p 5 (by omega)
              have t0 := HT2.out.c0
              have t1 := HT2.out.c1
              have t2 := HT2.out.c2
              have hh28 := held28
              have hg28 := guard28
              go_wp2
              go_quiet (fail)
              go_wp2
              go_roundw
              case rel => exact ⟨2, by omega, rfl, ⟨HT2.out.drewN _⟩⟩
              case measure => simp [intOf]
            | 2, _ =>
              have r0 : wr.cell? ⟨w.heap.size, 6, none⟩ = some (.int .u8 3) := HT2.out.pw.p 6 (by omega)
              have r1 : wr.cell? ⟨w.heap.size, 7, none⟩ = some (.int .u16 12) := HT2.out.pw.p 7 (by omega)
              have r2 : wr.cell? ⟨w.heap.size, 8, none⟩ = some (.int .u16 0) := HT2.out.pw.p 8 (by omega)
              have t0 := HT2.out.c0
              have t1 := HT2.out.c1
              have t2 := HT2.out.c2
              have hh28 := held28
              have hg28 := guard28
              go_wp2
              go_quiet (fail)
              go_wp2
              go_roundw
              case rel => exact ⟨3, by omega, rfl, ⟨HT2.out.drewN _⟩⟩
              case measure => simp [intOf]
            | 3, _ =>
              have r0 : wr.cell? ⟨w.heap.size, 9, none⟩ = some (.int .u8 3) := HT2.out.pw.p 9 (by omega)
              have r1 : wr.cell? ⟨w.heap.size, 10, none⟩ = some (.int .u16 13) := HT2.out.pw.p 10 (by omega)
              have r2 : wr.cell? ⟨w.heap.size, 11, none⟩ = some (.int .u16 0) := HT2.out.pw.p 11 (by omega)
              have t0 := HT2.out.c0
              have t1 := HT2.out.c1
              have t2 := HT2.out.c2
              have hh28 := held28
              have hg28 := guard28
              go_wp2
              go_quiet (fail)
              go_wp2
              go_roundw
              case rel => exact ⟨4, by omega, rfl, ⟨HT2.out.drewN _⟩⟩
              case measure => simp [intOf]
            | 4, _ =>
              have r0 : wr.cell? ⟨w.heap.size, 12, none⟩ = some (.int .u8 2) := HT2.out.pw.p 12 (by omega)
              have r1 : wr.cell? ⟨w.heap.size, 13, none⟩ = some (.int .u16 5) := HT2.out.pw.p 13 (by omega)
              have r2 : wr.cell? ⟨w.heap.size, 14, none⟩ = some (.int .u16 0) := HT2.out.pw.p 14 (by omega)
              have t0 := HT2.out.c0
              have t1 := HT2.out.c1
              have t2 := HT2.out.c2
              have hh28 := held28
              have hg28 := guard28
              go_wp2
              go_quiet (fail)
              go_wp2
              go_roundw
              case rel => exact ⟨5, by omega, rfl, ⟨HT2.out.drewN _⟩⟩
              case measure => simp [intOf]
            | 5, _ =>
              have r0 : wr.cell? ⟨w.heap.size, 15, none⟩ = some (.int .u8 2) := HT2.out.pw.p 15 (by omega)
              have r1 : wr.cell? ⟨w.heap.size, 16, none⟩ = some (.int .u16 6) := HT2.out.pw.p 16 (by omega)
              have r2 : wr.cell? ⟨w.heap.size, 17, none⟩ = some (.int .u16 0) := HT2.out.pw.p 17 (by omega)
              have t0 := HT2.out.c0
              have t1 := HT2.out.c1
              have t2 := HT2.out.c2
              have hh28 := held28
              have hg28 := guard28
              go_wp2
              go_quiet (fail)
              go_wp2
              go_roundw
              case rel => exact ⟨6, by omega, rfl, ⟨HT2.out.drewN _⟩⟩
              case measure => simp [intOf]
            | 6, _ =>
              have r0 : wr.cell? ⟨w.heap.size, 18, none⟩ = some (.int .u8 4) := HT2.out.pw.p 18 (by omega)
              have r1 : wr.cell? ⟨w.heap.size, 19, none⟩ = some (.int .u16 31) := HT2.out.pw.p 19 (by omega)
              have r2 : wr.cell? ⟨w.heap.size, 20, none⟩ = some (.int .u16 0) := HT2.out.pw.p 20 (by omega)
              have t0 := HT2.out.c0
              have t1 := HT2.out.c1
              have t2 := HT2.out.c2
              have hh28 := held28
              have hg28 := guard28
              go_wp2
              go_quiet (fail)
              go_wp2
              go_roundw
              case rel => exact ⟨7, by omega, rfl, ⟨HT2.out.drewN _⟩⟩
              case measure => simp [intOf]
            | 7, _ =>
              have r0 : wr.cell? ⟨w.heap.size, 21, none⟩ = some (.int .u8 4) := HT2.out.pw.p 21 (by omega)
              have r1 : wr.cell? ⟨w.heap.size, 22, none⟩ = some (.int .u16 19) := HT2.out.pw.p 22 (by omega)
              have r2 : wr.cell? ⟨w.heap.size, 23, none⟩ = some (.int .u16 0) := HT2.out.pw.p 23 (by omega)
              have t0 := HT2.out.c0
              have t1 := HT2.out.c1
              have t2 := HT2.out.c2
              have hh28 := held28
              have hg28 := guard28
              go_wp2
              go_quiet (fail)
              go_wp2
              go_roundw
              case rel => exact ⟨8, by omega, rfl, ⟨HT2.out.drewN _⟩⟩
              case measure => simp [intOf]
          · have hje : j = 8 := by omega
            subst hje
            have t0 := HT2.out.c0
            have t1 := HT2.out.c1
            have t2 := HT2.out.c2
            go_wp2
            go_roundw
            case rel => exact ⟨9, by omega, rfl, rfl, HT2.out.pw⟩
            case measure => simp [intOf]
      | 9, _ =>
        have q0 : wr.cell? ⟨w.heap.size, 27, none⟩ = some (.int .u8 4) := hpw.p 27 (by omega)
        have q1 : wr.cell? ⟨w.heap.size, 28, none⟩ = some (.int .u16 14) := hpw.p 28 (by omega)
        have q2 : wr.cell? ⟨w.heap.size, 29, none⟩ = some (.int .u16 0) := hpw.p 29 (by omega)
        have hz1 := hpw.lt
        have hz0 : w.heap.size < wr.heap.size := by omega
        have hT := Bx.mk (TW.start hpw 4 14 0)
        clear hpw
        go_wp2
        clear q0 q1 q2
        generalize wr.alloc (.cells #[.int .u8 4, .int .u16 14, .int .u16 0] 28) = W0 at *
        generalize wr.heap.size = T at *
        have t0 := hT.out.c0
        have qp : W0.cell? ⟨w.heap.size, 24, none⟩ = some (.int .u8 4) := hT.out.pw.p 24 (by omega)
        have qs : W0.cell? ⟨w.heap.size + 1, 4, none⟩ = some (.bool true) := hT.out.pw.s 4 (by omega)
        have qf := hT.out.pw.f 4
        go_quiet (fail)
        have HT1 := Bx.mk ((hT.out.drewN nq).see 4 (by omega) (seenAt_length 9))
        go_wp2
        clear t0 qs qf hT qp
        generalize (W0.drewN nq).setCell ⟨w.heap.size + 1, 4, none⟩ (.bool true) = W1 at *
        go_loopw [6] (fun t6 wx => ∃ j : Nat, j ≤ 9 ∧ t6 = .int .i64 j ∧ Bx (TW w (seenAt 10) 4 14 0 T wx)) (fun t6 _ => 9 - (intOf t6).toNat)
        case atStart => exact ⟨0, by omega, rfl, HT1⟩
        case round =>
          obtain ⟨j, hj, rfl, HT2⟩ := hrel
          clear HT1
          rcases Nat.lt_or_ge j 9 with hltj | hgej
          · match j, hltj with
            | 0, _ =>
              have r0 : wr.cell? ⟨w.heap.size, 0, none⟩ = some (.int .u8 1) := HT2.out.pw.p 0 (by omega)
              have r1 : wr.cell? ⟨w.heap.size, 1, none⟩ = some (.int .u16 12) := HT2.out.pw.p 1 (by omega)
              have r2 : wr.cell? ⟨w.heap.size, 2, none⟩ = some (.int .u16 256) := HT2.out.pw.p 2 (by omega)
              have t0 := HT2.out.c0
              have t1 := HT2.out.c1
              have t2 := HT2.out.c2
              have hh28 := held28
              have hg28 := guard28
              go_wp2
              go_quiet (fail)
              go_wp2
              go_roundw
              case rel => exact ⟨1, by omega, rfl, ⟨HT2.out.drewN _⟩⟩
              case measure => simp [intOf]
            | 1, _ =>
              have r0 : wr.cell? ⟨w.heap.size, 3, none⟩ = some (.int .u8 1) := HT2.out.pw.p 3 (by omega)
              have r1 : wr.cell? ⟨w.heap.size, 4, none⟩ = some (.int .u16 12) := HT2.out.pw.p 4 (by omega)
              have r2 : wr.cell? ⟨w.heap.size, 5, none⟩ = some (.int .u16 128) := HT2.out.pw.p 5 (by omega)
              have t0 := HT2.out.c0
              have t1 := HT2.out.c1
              have t2 := HT2.out.c2
              have hh28 := held28
              have hg28 := guard28
              go_wp2
              go_quiet (fail)
              go_wp2
              go_roundw
              case rel => exact ⟨2, by omega, rfl, ⟨HT2.out.drewN _⟩⟩
              case measure => simp [intOf]
            | 2, _ =>
              have r0 : wr.cell? ⟨w.heap.size, 6, none⟩ = some (.int .u8 3) := HT2.out.pw.p 6 (by omega)
              have r1 : wr.cell? ⟨w.heap.size, 7, none⟩ = some (.int .u16 12) := HT2.out.pw.p 7 (by omega)
              have r2 : wr.cell? ⟨w.heap.size, 8, none⟩ = some (.int .u16 0) := HT2.out.pw.p 8 (by omega)
              have t0 := HT2.out.c0
              have t1 := HT2.out.c1
              have t2 := HT2.out.c2
              have hh28 := held28
              have hg28 := guard28
              go_wp2
              go_quiet (fail)
              go_wp2
              go_roundw
              case rel => exact ⟨3, by omega, rfl, ⟨HT2.out.drewN _⟩⟩
              case measure => simp [intOf]
            | 3, _ =>
              have r0 : wr.cell? ⟨w.heap.size, 9, none⟩ = some (.int .u8 3) := HT2.out.pw.p 9 (by omega)
              have r1 : wr.cell? ⟨w.heap.size, 10, none⟩ = some (.int .u16 13) := HT2.out.pw.p 10 (by omega)
              have r2 : wr.cell? ⟨w.heap.size, 11, none⟩ = some (.int .u16 0) := HT2.out.pw.p 11 (by omega)
              have t0 := HT2.out.c0
              have t1 := HT2.out.c1
              have t2 := HT2.out.c2
              have hh28 := held28
              have hg28 := guard28
              go_wp2
              go_quiet (fail)
              go_wp2
              go_roundw
              case rel => exact ⟨4, by omega, rfl, ⟨HT2.out.drewN _⟩⟩
              case measure => simp [intOf]
            | 4, _ =>
              have r0 : wr.cell? ⟨w.heap.size, 12, none⟩ = some (.int .u8 2) := HT2.out.pw.p 12 (by omega)
              have r1 : wr.cell? ⟨w.heap.size, 13, none⟩ = some (.int .u16 5) := HT2.out.pw.p 13 (by omega)
              have r2 : wr.cell? ⟨w.heap.size, 14, none⟩ = some (.int .u16 0) := HT2.out.pw.p 14 (by omega)
              have t0 := HT2.out.c0
              have t1 := HT2.out.c1
              have t2 := HT2.out.c2
              have hh28 := held28
              have hg28 := guard28
              go_wp2
              go_quiet (fail)
              go_wp2
              go_roundw
              case rel => exact ⟨5, by omega, rfl, ⟨HT2.out.drewN _⟩⟩
              case measure => simp [intOf]
            | 5, _ =>
              have r0 : wr.cell? ⟨w.heap.size, 15, none⟩ = some (.int .u8 2) := HT2.out.pw.p 15 (by omega)
              have r1 : wr.cell? ⟨w.heap.size, 16, none⟩ = some (.int .u16 6) := HT2.out.pw.p 16 (by omega)
              have r2 : wr.cell? ⟨w.heap.size, 17, none⟩ = some (.int .u16 0) := HT2.out.pw.p 17 (by omega)
              have t0 := HT2.out.c0
              have t1 := HT2.out.c1
              have t2 := HT2.out.c2
              have hh28 := held28
              have hg28 := guard28
              go_wp2
              go_quiet (fail)
              go_wp2
              go_roundw
              case rel => exact ⟨6, by omega, rfl, ⟨HT2.out.drewN _⟩⟩
              case measure => simp [intOf]
            | 6, _ =>
              have r0 : wr.cell? ⟨w.heap.size, 18, none⟩ = some (.int .u8 4) := HT2.out.pw.p 18 (by omega)
              have r1 : wr.cell? ⟨w.heap.size, 19, none⟩ = some (.int .u16 31) := HT2.out.pw.p 19 (by omega)
              have r2 : wr.cell? ⟨w.heap.size, 20, none⟩ = some (.int .u16 0) := HT2.out.pw.p 20 (by omega)
              have t0 := HT2.out.c0
              have t1 := HT2.out.c1
              have t2 := HT2.out.c2
              have hh28 := held28
              have hg28 := guard28
              go_wp2
              go_quiet (fail)
              go_wp2
              go_roundw
              case rel => exact ⟨7, by omega, rfl, ⟨HT2.out.drewN _⟩⟩
              case measure => simp [intOf]
            | 7, _ =>
              have r0 : wr.cell? ⟨w.heap.size, 21, none⟩ = some (.int .u8 4) := HT2.out.pw.p 21 (by omega)
              have r1 : wr.cell? ⟨w.heap.size, 22, none⟩ = some (.int .u16 19) := HT2.out.pw.p 22 (by omega)
              have r2 : wr.cell? ⟨w.heap.size, 23, none⟩ = some (.int .u16 0) := HT2.out.pw.p 23 (by omega)
              have t0 := HT2.out.c0
              have t1 := HT2.out.c1
              have t2 := HT2.out.c2
              have hh28 := held28
              have hg28 := guard28
              go_wp2
              go_quiet (fail)
              go_wp2
              go_roundw
              case rel => exact ⟨8, by omega, rfl, ⟨HT2.out.drewN _⟩⟩
              case measure => simp [intOf]
            | 8, _ =>
              have r0 : wr.cell? ⟨w.heap.size, 24, none⟩ = some (.int .u8 4) := HT2.out.pw.p 24 (by omega)
              have r1 : wr.cell? ⟨w.heap.size, 25, none⟩ = some (.int .u16 20) := HT2.out.pw.p 25 (by omega)
              have r2 : wr.cell? ⟨w.heap.size, 26, none⟩ = some (.int .u16 0) := HT2.out.pw.p 26 (by omega)
              have t0 := HT2.out.c0
              have t1 := HT2.out.c1
              have t2 := HT2.out.c2
              have hh28 := held28
              have hg28 := guard28
              go_wp2
              go_quiet (fail)
              go_wp2
              go_roundw
              case rel => exact ⟨9, by omega, rfl, ⟨HT2.out.drewN _⟩⟩
              case measure => simp [intOf]
          · have hje : j = 9 := by omega
            subst hje
            have t0 := HT2.out.c0
            have t1 := HT2.out.c1
            have t2 := HT2.out.c2
            go_wp2
            go_roundw
            case rel => exact ⟨10, by omega, rfl, rfl, HT2.out.pw⟩
            case measure => simp [intOf]
    · have hie : i = 10 := by omega
      subst hie
      have s1 : wr.cell? ⟨w.heap.size + 1, 1, none⟩ = some (.bool true) := hpw.s 1 (by omega)
      have s2 : wr.cell? ⟨w.heap.size + 1, 2, none⟩ = some (.bool true) := hpw.s 2 (by omega)
      have s3 : wr.cell? ⟨w.heap.size + 1, 3, none⟩ = some (.bool true) := hpw.s 3 (by omega)
      have s4 : wr.cell? ⟨w.heap.size + 1, 4, none⟩ = some (.bool true) := hpw.s 4 (by omega)
      have hbel := hpw.bel
      clear hpw
      go_wp2
      go_ret
      exact ⟨rfl, hbel⟩
end Go.Proofs.Qxb6618999a
