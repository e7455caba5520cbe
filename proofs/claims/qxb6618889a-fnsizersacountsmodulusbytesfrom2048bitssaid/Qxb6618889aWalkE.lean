import Derived.Test.Qxb6618889aWalkD
import Derived.Lib.LazyBuf
import Derived.Lib.UnsafeStr
namespace Go.Proofs.Qxb6618889a
open Go.RowKit

set_option maxRecDepth 100000 in
set_option maxHeartbeats 400000 in
theorem bytes_any (a : Option Addr) (n c : Nat) (x : Int) (hn : n ≤ maxLen) (w : World) :
    Calls Try.prog 4 #[.slice a n c, .int .u8 x] w fun e w' => e = .returned (.bool (decide (n ≤ 1048576))) ∧ w' = w := by
  unfold maxLen at hn
  by_cases h : n ≤ 1048576
  · rw [decide_eq_true h]
    have h' : (n : Int) ≤ 1048576 := by omega
    clear h
    go_enter Try.func4, Try.ntmps4
    go_wp2
    go_ret
    exact ⟨rfl, rfl⟩
  · rw [decide_eq_false h]
    have h' : (1048576 : Int) < n := by omega
    clear h
    go_enter Try.func4, Try.ntmps4
    go_wp2
    go_ret
    exact ⟨rfl, rfl⟩

theorem Try.info5 : (Try.prog.info? 5).map (fun i => (i.zero, i.size, i.bytes)) = some (some (.int .u8 0), 1, 1) := by kernel_rfl
theorem Try.size5 : (Try.prog.info? 5).map (·.size) = some 1 := by kernel_rfl
def zeros8 (n : Nat) : Array Value := madeCells (Value.int .u8 0).cells n
theorem zeros8_at (n j : Nat) (h : j < n) : (zeros8 n)[j]? = some (.int .u8 0) := by
  unfold zeros8
  have : (madeCells (Value.int .u8 0).cells n).toList = List.replicate n (.int .u8 0) := toList_madeCells_one _ _
  rw [← Array.getElem?_toList, this]
  simp [h]
theorem run_make8 (w : World) (kl kc : IntKind) (l c : Int) (h0 : 0 ≤ l) (hlc : l ≤ c) (hc : c ≤ 1000000) :
    (Instr.makeSlice 22 (.int kl l) (.int kc c)).run Try.prog w = .ok (.slice (some ⟨w.heap.size, 0, none⟩) l.toNat c.toNat) (w.alloc (.cells (zeros8 c.toNat) 5)) := by
  obtain ⟨i, hi, hz0, hz1, hz2⟩ := info_parts Try.info5
  have := run_make (P := Try.prog) w 22 5 i (.int .u8 0) Try.underlying22 hi hz0 kl kc l c h0 hlc (by rw [hz2]; omega) (by omega)
  rw [hz1, Nat.mul_one] at this
  exact this

theorem eq_nil (a : Option Addr) (l c : Nat) (w : World) : (binOp .eql 22 (.slice a l c) (.slice none 0 0)).run Try.prog w = .ok (.bool a.isNone) w := run_eql_slice_nil w 22 5 a l c Try.underlying22
theorem byteCells_one (l : List UInt8) : ∀ v ∈ Lib.byteCells l, v.oneCell' = true := by
  intro v hv
  simp only [Lib.byteCells, List.mem_map] at hv
  obtain ⟨b, -, rfl⟩ := hv
  rfl

theorem clone_nil (w : World) : Calls Try.prog 5 #[.slice none 0 0] w fun e w' => e = .returned (.slice none 0 0) ∧ w' = w := by
  have hnil := eq_nil
  go_enter Try.func5, Try.ntmps5
  go_wp2
  go_ret
  exact ⟨rfl, rfl⟩

set_option maxHeartbeats 400000 in
theorem clone_zero (x : Addr) (c : Nat) (w : World) : Calls Try.prog 5 #[.slice (some x) 0 c] w fun e w' => e = .returned (.slice (some ⟨w.heap.size, 0, none⟩) 0 0) ∧ Below w.heap.size w w' := by
  have hm := fun kl kc => run_make8 w kl kc 0 0 (by omega) (by omega) (by omega)
  have hcp := fun ty => run_copy_none (P := Try.prog) (w.alloc (.cells (zeros8 0) 5)) 22 22 ty 5 (some ⟨w.heap.size, 0, none⟩) (some x) 0 0 0 c Try.underlying22 Try.size5 rfl
  have hB : Below w.heap.size w (w.alloc (.cells (zeros8 0) 5)) := (Below.refl _ _).alloc (Nat.le_refl _) _
  have hnil := eq_nil
  go_enter Try.func5, Try.ntmps5
  go_wp2
  go_ret
  exact ⟨rfl, hB⟩

set_option maxHeartbeats 400000 in
theorem clone_pos (g o n c : Nat) (l : List UInt8) (hl : l.length = n) (h2 : n ≤ 70000) (w : World) (hb : BytesAt w g o l) :
    Calls Try.prog 5 #[.slice (some ⟨g, o, none⟩) n c] w fun e w' => e = .returned (.slice (some ⟨w.heap.size, 0, none⟩) n n) ∧ BytesAt w' w.heap.size 0 l ∧ Below w.heap.size w w' := by
  have hm := fun kl kc => run_make8 w kl kc n n (by omega) (by omega) (by omega)
  have hA : Below w.heap.size w (w.alloc (.cells (zeros8 n) 5)) := (Below.refl _ _).alloc (Nat.le_refl _) _
  have hcl : (Lib.byteCells l).length = n := by rw [← hl]; simp [Lib.byteCells]
  have hsome : ∀ j, j < (Lib.byteCells l).length → ((w.alloc (.cells (zeros8 n) 5)).cell? ⟨w.heap.size, 0 + j, none⟩).isSome = true := fun j hj => by
    rw [World.cell?_alloc_new, Nat.zero_add, zeros8_at n j (by omega)]; rfl
  have hcp : ∀ ty, (Builtin.copy_ #[22, 22] ty #[.slice (some ⟨w.heap.size, 0, none⟩) n n, .slice (some ⟨g, o, none⟩) n c]).run Try.prog (w.alloc (.cells (zeros8 n) 5)) = .ok (.int .i64 n) ((w.alloc (.cells (zeros8 n) 5)).setCells w.heap.size 0 (Lib.byteCells l)) := by
    intro ty
    have := run_copy_cells (P := Try.prog) (w.alloc (.cells (zeros8 n) 5)) 22 22 ty 5 w.heap.size 0 n n ⟨g, o, none⟩ n c (Lib.byteCells l) Try.underlying22 Try.size5 (by rw [hcl]; simp) (fun j v hj => ?_) hsome (fun j _ => by rw [frozen?_alloc_cells]; simp [World.frozen?]) (byteCells_one l)
    · rw [hcl] at this; exact this
    · have hj' : j < l.length := by
        have := (List.getElem?_eq_some_iff.1 hj).1
        omega
      have h5 := (hb.below hA) j hj'
      rw [Addr.add_lit, h5]
      simp [Lib.byteCells, List.getElem?_eq_getElem hj'] at hj
      rw [← hj]
      simp [List.getD_eq_getElem?_getD, List.getElem?_eq_getElem hj']
  have hfin : Bx (BytesAt ((w.alloc (.cells (zeros8 n) 5)).setCells w.heap.size 0 (Lib.byteCells l)) w.heap.size 0 l) := ⟨fun j hj => by
    have := World.cell?_setCells_in w.heap.size (Lib.byteCells l) 0 (w.alloc (.cells (zeros8 n) 5)) hsome j (by omega)
    rw [this]
    simp [Lib.byteCells, List.getD_eq_getElem?_getD, List.getElem?_eq_getElem hj]⟩
  have hB : Below w.heap.size w ((w.alloc (.cells (zeros8 n) 5)).setCells w.heap.size 0 (Lib.byteCells l)) := below_setCells (Nat.le_refl _) _ _ _ hA
  generalize (w.alloc (.cells (zeros8 n) 5)).setCells w.heap.size 0 (Lib.byteCells l) = W at *
  clear hsome hcl hA hb
  have hnil := eq_nil
  go_enter Try.func5, Try.ntmps5
  go_wp2
  go_ret
  exact ⟨rfl, hfin.out, hB⟩
end Go.Proofs.Qxb6618889a
