import Derived.Test.Qxb6618968aWalkH
namespace Go.Proofs.Qxb6618968a
open Go.RowKit

theorem vsCells_at (ms : List ByteArray) (k : Nat) (hk : k < ms.length) : (vsCells ms)[3 * k]? = some (.int .i64 1002) ∧ (vsCells ms)[3 * k + 1]? = some (.string (ms.getD k ByteArray.empty)) ∧ (vsCells ms)[3 * k + 2]? = some (.slice none 0 0) := by
  induction ms generalizing k with
  | nil => simp at hk
  | cons x r ih =>
    have e : vsCells (x :: r) = vcells x ++ vsCells r := by simp [vsCells]
    rw [e]
    cases k with
    | zero => simp [vcells]
    | succ k =>
      have h := ih k (by simpa using hk)
      have hl : (vcells x).length = 3 := rfl
      refine ⟨?_, ?_, ?_⟩
      · rw [List.getElem?_append_right (by omega), hl, show 3 * (k + 1) - 3 = 3 * k by omega]; exact h.1
      · rw [List.getElem?_append_right (by omega), hl, show 3 * (k + 1) + 1 - 3 = 3 * k + 1 by omega]
        rw [h.2.1]; simp
      · rw [List.getElem?_append_right (by omega), hl, show 3 * (k + 1) + 2 - 3 = 3 * k + 2 by omega]; exact h.2.2

theorem pathDepth_any (w : World) : Calls Try.prog 20 #[.agg #[.slice none 0 0]] w fun e w' => e = .returned (.int .i64 0) ∧ Below w.heap.size w w' := by
  go_enter Try.func20, Try.ntmps20
  go_wp2
  go_ret
  exact ⟨rfl, (Below.refl _ _).alloc (Nat.le_refl _) _⟩

set_option maxHeartbeats 400000 in
theorem isAt_any (b : Nat) (ms : List ByteArray) (k : Nat) (kI : Int) (hkk : kI = k) (m : ByteArray) (w : World) (hc : Chk b ms w) (hk : k < ms.length) (hl : ms.length ≤ 100) (hm : ms.getD k ByteArray.empty = m) :
    Calls Try.prog 11 #[.pointer (some ⟨b, 0, none⟩), .int .i64 kI, .string m] w fun e w' => e = .returned (.bool true) ∧ Below w.heap.size w w' := by
  subst hkk
  obtain ⟨⟨a, cap, hcell, hown⟩, -⟩ := hc
  obtain ⟨g, cap', hv⟩ := own_form hown (by omega)
  injection hv with hv1 hv2 hv3
  subst hv1 hv3
  have hat := vsCells_at ms k hk
  rw [hm] at hat
  have c0 : w.cell? ⟨g, k * 3, none⟩ = some (.int .i64 1002) := by rw [Nat.mul_comm, hown.cellAt (3 * k) (by omega)]; exact hat.1
  have c1 : w.cell? ⟨g, k * 3 + 1, none⟩ = some (.string m) := by rw [Nat.mul_comm, hown.cellAt (3 * k + 1) (by omega)]; exact hat.2.1
  have c2 : w.cell? ⟨g, k * 3 + 2, none⟩ = some (.slice none 0 0) := by rw [Nat.mul_comm, hown.cellAt (3 * k + 2) (by omega)]; exact hat.2.2
  clear hat hown hv2 hm
  have hkI : (k : Int) < (ms.length : Int) := by omega
  generalize ms.length = N at *
  go_enter Try.func11, Try.ntmps11
  go_wp2_with (go_at_call 20; refine (pathDepth_any _).mono ?_; rintro e w2 ⟨rfl, hB2⟩)
  go_ret
  exact ⟨rfl, ((Below.refl _ _).alloc (Nat.le_refl _) _).trans (hB2.mono (by simp))⟩
end Go.Proofs.Qxb6618968a
