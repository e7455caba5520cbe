import Derived.Test.Qxb6618889aWalkA
import Derived.Test.Qxb6618889aLen
namespace Go.Proofs.Qxb6618889a
open Go.RowKit

theorem drewN_cell (w : World) (n : Nat) (a : Addr) : (w.drewN n).cell? a = w.cell? a := rfl
theorem below_drewN {B : Nat} {a w : World} (h : Below B a w) (n : Nat) : Below B a (w.drewN n) :=
  h.trans ⟨rfl, rfl, rfl, Nat.le_refl _, fun _ _ => rfl⟩

theorem beWord_list (g o n c : Nat) (l : List UInt8) (hl : l.length = 8) (w : World) (hn : 8 ≤ n) (hc : ∀ j (h : j < l.length), w.cell? ⟨g, o + j, none⟩ = some (.int .u8 l[j].toNat)) :
    Calls Try.prog 23 #[.slice (some ⟨g, o, none⟩) n c] w fun e w' => e = .returned (.int .u64 (Plain.bv l)) ∧ ∃ nq, w' = w.drewN nq := by
  match l, hl with
  | [b0, b1, b2, b3, b4, b5, b6, b7], _ =>
    exact beWord g o n c b0 b1 b2 b3 b4 b5 b6 b7 w hn (hc 0 (by simp)) (hc 1 (by simp)) (hc 2 (by simp)) (hc 3 (by simp)) (hc 4 (by simp)) (hc 5 (by simp)) (hc 6 (by simp)) (hc 7 (by simp))

def NormOK (V n i : Nat) : Prop := i ≤ n ∧ V < 2 ^ (64 * i) ∧ (i = 0 ∨ 2 ^ (64 * (i - 1)) ≤ V)

/-! norm: the words without the zeros at the end. -/
set_option maxHeartbeats 1000000 in
theorem norm_any (B n cap V : Nat) (w : World) (hn : n ≤ cap) (hcap : cap ≤ 100000) (hpos : 0 < cap) (hc : ∀ j, j < n → w.cell? ⟨B, j, none⟩ = some (.int .u64 (Plain.wd V j))) (hV : V < 2 ^ (64 * n)) :
    Calls Try.prog 24 #[.slice (some ⟨B, 0, none⟩) n cap] w fun e w' => ∃ i : Nat, e = .returned (.slice (some ⟨B, 0, none⟩) i cap) ∧ NormOK V n i ∧ w' = w := by
  have HC : Hid (∀ j, j < n → w.cell? ⟨B, j, none⟩ = some (.int .u64 (Plain.wd V j))) := hc
  have HV : Hid (V < 2 ^ (64 * n)) := hV
  clear hc hV
  go_enter Try.func24, Try.ntmps24
  go_wp2
  go_loop [3] (fun t => ∃ i : Nat, i ≤ n ∧ t = .int .i64 i ∧ Hid (V < 2 ^ (64 * i))) (fun t => (intOf t).toNat)
  case atStart => exact ⟨n, Nat.le_refl _, rfl, HV⟩
  case round =>
    obtain ⟨i, hi, rfl, hVi⟩ := hrel
    by_cases h0 : i = 0
    · subst h0
      go_wp2
      go_ret
      exact ⟨0, rfl, ⟨Nat.zero_le _, hVi.out, .inl rfl⟩, rfl⟩
    · obtain ⟨m, rfl⟩ : ∃ m, i = m + 1 := ⟨i - 1, by omega⟩
      have hcell := HC.out m (by omega)
      by_cases hz : Plain.wd V m = 0
      · rw [hz] at hcell
        have hVm : Hid (V < 2 ^ (64 * m)) := Plain.wd_zero V m hVi.out hz
        clear hz hVi
        go_wp2
        exact ⟨⟨m, by omega, rfl, hVm⟩, by simp [intOf]⟩
      · have hok : NormOK V n (m + 1) := ⟨hi, hVi.out, .inr (Plain.wd_nonzero V m hz)⟩
        generalize Plain.wd V m = x at *
        have hnz : ((x : Int) == 0) = false := by simp; omega
        clear hz HV HC hVi
        go_wp2
        go_ret
        exact ⟨m + 1, rfl, hok, rfl⟩

theorem norm_nil (w : World) : Calls Try.prog 24 #[.slice none 0 0] w fun e w' => e = .returned (.slice none 0 0) ∧ w' = w := by
  go_enter Try.func24, Try.ntmps24
  go_wp2
  refine wp_loop_rounds 1 ?_
  rw [rounds_succ]
  go_wp2
  go_ret
  exact ⟨rfl, rfl⟩

/-! ### make -/
theorem Try.info51 : (Try.prog.info? 51).map (fun i => (i.zero, i.size, i.bytes)) = some (some (.int .u64 0), 1, 8) := by kernel_rfl
def zeros (n : Nat) : Array Value := madeCells (Value.int .u64 0).cells n
theorem zeros_at (n j : Nat) (h : j < n) : (zeros n)[j]? = some (.int .u64 0) := by
  unfold zeros
  have : (madeCells (Value.int .u64 0).cells n).toList = List.replicate n (.int .u64 0) := toList_madeCells_one _ _
  rw [← Array.getElem?_toList, this]
  simp [h]

theorem run_make64 (w : World) (kl kc : IntKind) (l c : Int) (h0 : 0 ≤ l) (hlc : l ≤ c) (hc : c ≤ 1000000) :
    (Instr.makeSlice 30 (.int kl l) (.int kc c)).run Try.prog w = .ok (.slice (some ⟨w.heap.size, 0, none⟩) l.toNat c.toNat) (w.alloc (.cells (zeros c.toNat) 51)) := by
  obtain ⟨i, hi, hz0, hz1, hz2⟩ := info_parts Try.info51
  have := run_make (P := Try.prog) w 30 51 i (.int .u64 0) Try.underlying30 hi hz0 kl kc l c h0 hlc (by rw [hz2]; omega) (by omega)
  rw [hz1, Nat.mul_one] at this
  exact this

theorem make_zero (w : World) : Calls Try.prog 22 #[.slice none 0 0, .int .i64 0] w fun e w' => e = .returned (.slice none 0 0) ∧ w' = w := by
  go_enter Try.func22, Try.ntmps22
  go_wp2
  go_ret
  exact ⟨rfl, rfl⟩

theorem make_any (n : Nat) (h1 : 1 ≤ n) (h2 : n ≤ 90000) (w : World) :
    Calls Try.prog 22 #[.slice none 0 0, .int .i64 n] w fun e w' => ∃ cap : Nat, e = .returned (.slice (some ⟨w.heap.size, 0, none⟩) n cap) ∧ n ≤ cap ∧ cap ≤ n + 4 ∧ w' = w.alloc (.cells (zeros cap) 51) := by
  have h1' : ¬ (n : Int) ≤ 0 := by omega
  by_cases hone : n = 1
  · subst hone
    have hm := fun kl kc => run_make64 w kl kc 1 1 (by omega) (by omega) (by omega)
    go_enter Try.func22, Try.ntmps22
    go_wp2
    go_ret
    exact ⟨1, rfl, by omega, by omega, rfl⟩
  · have hone' : ((n : Int) == 1) = false := by simp; omega
    have hm := fun kl kc => run_make64 w kl kc n ((n : Int) + 4) (by omega) (by omega) (by omega)
    go_enter Try.func22, Try.ntmps22
    go_wp2
    go_ret
    exact ⟨n + 4, rfl, by omega, by omega, rfl⟩
end Go.Proofs.Qxb6618889a
