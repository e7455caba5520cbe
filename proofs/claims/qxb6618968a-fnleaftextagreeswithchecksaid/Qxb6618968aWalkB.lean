import Derived.Test.Qxb6618968aWalkA
namespace Go.Proofs.Qxb6618968a
open Go.RowKit

theorem Try.info9 : (Try.prog.info? 9).map (fun i => (i.zero, i.size, i.bytes)) = some (some (.string ByteArray.empty), 1, 16) := by kernel_rfl
def zerosS (n : Nat) : Array Value := madeCells (Value.string ByteArray.empty).cells n
theorem zerosS_at (n j : Nat) (h : j < n) : (zerosS n)[j]? = some (.string ByteArray.empty) := by
  unfold zerosS
  have : (madeCells (Value.string ByteArray.empty).cells n).toList = List.replicate n (.string ByteArray.empty) := toList_madeCells_one _ _
  rw [← Array.getElem?_toList, this]
  simp [h]
theorem run_makeS (w : World) (kl kc : IntKind) (l c : Int) (h0 : 0 ≤ l) (hlc : l ≤ c) (hc : c ≤ 2000000) :
    (Instr.makeSlice 22 (.int kl l) (.int kc c)).run Try.prog w = .ok (.slice (some ⟨w.heap.size, 0, none⟩) l.toNat c.toNat) (w.alloc (.cells (zerosS c.toNat) 9)) := by
  obtain ⟨i, hi, hz0, hz1, hz2⟩ := info_parts Try.info9
  have := run_make (P := Try.prog) w 22 9 i (.string ByteArray.empty) Try.underlying22 hi hz0 kl kc l c h0 hlc (by rw [hz2]; omega) (by omega)
  rw [hz1, Nat.mul_one] at this
  exact this
theorem eq_nil (a : Option Addr) (l c : Nat) (w : World) : (binOp .eql 22 (.slice a l c) (.slice none 0 0)).run Try.prog w = .ok (.bool a.isNone) w := run_eql_slice_nil w 22 9 a l c Try.underlying22

structure CW (w : World) (l : List ByteArray) (n k : Nat) (wr : World) : Prop where
  has : ∀ j, j < n → ∃ v, wr.cell? ⟨w.heap.size, j, none⟩ = some v
  free : ∀ j, wr.frozen? ⟨w.heap.size, j, none⟩ = false
  done : ∀ j, j < k → wr.cell? ⟨w.heap.size, j, none⟩ = some (.string (l.getD j ByteArray.empty))
  bel : Below w.heap.size w wr
theorem CW.start (w : World) (l : List ByteArray) (n : Nat) : CW w l n 0 (w.alloc (.cells (zerosS n) 9)) := by
  refine ⟨fun j hj => ⟨.string ByteArray.empty, ?_⟩, fun j => ?_, fun j hj => by omega, (Below.refl _ _).alloc (Nat.le_refl _) _⟩
  · rw [World.cell?_alloc_new]; exact zerosS_at n j hj
  · rw [frozen?_alloc_cells]; simp [World.frozen?]
theorem CW.put {w : World} {l : List ByteArray} {n k : Nat} {wr : World} (h : CW w l n k wr) (hk : k < n) : CW w l n (k + 1) (wr.setCell ⟨w.heap.size, k, none⟩ (.string (l.getD k ByteArray.empty))) := by
  obtain ⟨v, hv⟩ := h.has k hk
  have hs := World.cell?_setCell_same wr ⟨w.heap.size, k, none⟩ (.string (l.getD k ByteArray.empty)) hv
  refine ⟨fun j hj => ?_, fun j => ?_, fun j hj => ?_, h.bel.setCell (Nat.le_refl _) _⟩
  · by_cases e : j = k
    · subst e; exact ⟨_, hs⟩
    · obtain ⟨u, hu⟩ := h.has j hj
      exact ⟨u, by rw [World.cell?_setCell_other _ _ _ _ (by intro h; injection h with h1 h2; omega)]; exact hu⟩
  · rw [World.frozen?_setCell]; exact h.free j
  · by_cases e : j = k
    · subst e; exact hs
    · rw [World.cell?_setCell_other _ _ _ _ (by intro h; injection h with h1 h2; omega)]; exact h.done j (by omega)

theorem clone_nil (w : World) : Calls Try.prog 7 #[.slice none 0 0] w fun e w' => e = .returned (.slice none 0 0) ∧ w' = w := by
  have hnil := eq_nil
  go_enter Try.func7, Try.ntmps7
  go_wp2
  go_ret
  exact ⟨rfl, rfl⟩

set_option maxRecDepth 100000 in
set_option maxHeartbeats 400000 in
theorem clone_some (x : Addr) (n c : Nat) (l : List ByteArray) (w : World) (hb : IsStrs w (some x) n c l) (hn : n ≤ 1048576) :
    Calls Try.prog 7 #[.slice (some x) n c] w fun e w' => e = .returned (.slice (some ⟨w.heap.size, 0, none⟩) n n) ∧ StrsAt w' w.heap.size 0 l ∧ Below w.heap.size w w' := by
  have hnI : (n : Int) ≤ 1048576 := by omega
  have hm := fun kl kc => run_makeS w kl kc n n (by omega) (by omega) (by omega)
  have hst := CW.start w l n
  have HL := Bx.mk hb.len
  have HB := Bx.mk hb
  have hnil := eq_nil
  clear hb hn
  go_enter Try.func7, Try.ntmps7
  go_wp2
  go_loopw [4] (fun t4 wr => ∃ j : Nat, j ≤ n ∧ t4 = .int .i64 j ∧ CW w l n j wr) (fun t4 _ => n - (intOf t4).toNat)
  case atStart => exact ⟨0, Nat.zero_le _, rfl, hst⟩
  case round =>
    obtain ⟨j, hj, rfl, hcw⟩ := hrel
    clear hst
    by_cases hlt : j < n
    · have hltI : (j : Int) < n := by omega
      have hjl : j < l.length := by rw [HL.out]; exact hlt
      obtain ⟨g, o, hx, hcell⟩ : ∃ g o, x = ⟨g, o, none⟩ ∧ wr.cell? ⟨g, o + j, none⟩ = some (.string (l.getD j ByteArray.empty)) := by
        rcases HB.out.below hcw.bel with ⟨h, _⟩ | ⟨g, o, h1, h2, h3, h4, h5⟩
        · omega
        · injection h1 with h1
          exact ⟨g, o, h1, h5 j hjl⟩
      subst hx
      obtain ⟨v, hv⟩ := hcw.has j hlt
      have hf := hcw.free j
      have hcw2 := hcw.put hlt
      generalize l.getD j ByteArray.empty = s at *
      clear hcw
      go_wp2
      go_roundw
      case rel => exact ⟨j + 1, by omega, by go_num, hcw2⟩
      case measure => simp [intOf]; omega
    · have hltI : ¬ (j : Int) < n := by omega
      have he : j = n := by omega
      subst he
      have hfin : Bx (StrsAt wr w.heap.size 0 l) := ⟨fun i hi => by rw [Nat.zero_add]; exact hcw.done i (by rw [← HL.out]; exact hi)⟩
      have hbel := hcw.bel
      clear hcw
      go_wp2
      go_ret
      exact ⟨rfl, hfin.out, hbel⟩

theorem clone_any (a : Option Addr) (n c : Nat) (l : List ByteArray) (w : World) (hb : IsStrs w a n c l) (hn : n ≤ 1048576) :
    Calls Try.prog 7 #[.slice a n c] w fun e w' => ∃ a', e = .returned (.slice a' n n) ∧ IsStrs w' a' n n l ∧ Below w.heap.size w w' := by
  cases a with
  | none =>
    obtain ⟨rfl, rfl, rfl⟩ : n = 0 ∧ l = [] ∧ c = 0 := by
      rcases hb with ⟨h1, h2, h3⟩ | ⟨_, _, h, _⟩
      · exact ⟨h1, h2, h3 rfl⟩
      · cases h
    refine (clone_nil w).mono ?_
    rintro e w' ⟨rfl, rfl⟩
    exact ⟨none, rfl, .inl ⟨rfl, rfl, fun _ => rfl⟩, Below.refl _ _⟩
  | some x =>
    have hl := hb.len
    refine (clone_some x n c l w hb hn).mono ?_
    rintro e w' ⟨rfl, hs, hB⟩
    refine ⟨_, rfl, ?_, hB⟩
    by_cases h0 : n = 0
    · subst h0
      exact .inl ⟨rfl, List.length_eq_zero_iff.1 hl, fun _ => rfl⟩
    · exact .inr ⟨_, 0, rfl, hl, by omega, Nat.le_refl _, hs⟩
end Go.Proofs.Qxb6618968a
