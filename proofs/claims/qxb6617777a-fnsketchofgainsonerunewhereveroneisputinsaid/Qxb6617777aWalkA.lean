import Derived.Test.Qxb6617777aRows
import Derived.Test.Qxb6617777aPlain
import Derived.WalkKit
import Derived.WalkSpells
import Derived.WalkLawsBesides
import Derived.Lib.OthersKept
import Derived.BigQuiet
namespace Go.Proofs.Qxb6617777a
open Go.RowKit

set_option maxHeartbeats 400000 in
theorem isCont_any (c : UInt8) (w : World) :
    Calls Try.prog 6 #[.int .u8 (c.toNat : Int)] w fun e w' => e = .returned (.bool (Plain.isC c)) ∧ w' = w := by
  have hb : c.toNat < 256 := c.toNat_lt
  by_cases h1 : 128 ≤ c.toNat
  · by_cases h2 : c.toNat < 192
    · have e : Plain.isC c = true := by simp [Plain.isC]; omega
      rw [e]
      have h1' : (128 : Int) ≤ (c.toNat : Int) := by omega
      have h2' : (c.toNat : Int) < 192 := by omega
      clear e
      go_enter Try.func6, Try.ntmps6
      go_wp2
      go_ret
      exact ⟨rfl, rfl⟩
    · have e : Plain.isC c = false := by simp [Plain.isC]; omega
      rw [e]
      have h1' : (128 : Int) ≤ (c.toNat : Int) := by omega
      have h2' : ¬ (c.toNat : Int) < 192 := by omega
      clear e
      go_enter Try.func6, Try.ntmps6
      go_wp2
      go_ret
      exact ⟨rfl, rfl⟩
  · have e : Plain.isC c = false := by simp [Plain.isC]; omega
    rw [e]
    have h1' : ¬ (128 : Int) ≤ (c.toNat : Int) := by omega
    clear e
    go_enter Try.func6, Try.ntmps6
    go_wp2
    go_ret
    exact ⟨rfl, rfl⟩

theorem iterAt_cell (w : World) (k : Nat) (s : ByteArray) (pos : Nat) (b o : Nat) (h : b ≠ k) : (w.iterAt k s pos).cell? ⟨b, o, none⟩ = w.cell? ⟨b, o, none⟩ :=
  World.cell?_of_block (a := ⟨b, o, none⟩) (Lib.iterAt_other w k b s pos h)
theorem iterAt_frozen (w : World) (k : Nat) (s : ByteArray) (pos : Nat) (b o : Nat) (h : b ≠ k) : (w.iterAt k s pos).frozen? ⟨b, o, none⟩ = w.frozen? ⟨b, o, none⟩ :=
  World.frozen?_of_block (a := ⟨b, o, none⟩) (Lib.iterAt_other w k b s pos h)

theorem cell_alloc_lt (w : World) (o : Obj) (b i : Nat) (h : b < w.heap.size) : (w.alloc o).cell? ⟨b, i, none⟩ = w.cell? ⟨b, i, none⟩ :=
  World.cell?_of_block (a := ⟨b, i, none⟩) (Below.heap_alloc _ _ _ h)
theorem frozen_alloc_lt (w : World) (o : Obj) (b i : Nat) (h : b < w.heap.size) : (w.alloc o).frozen? ⟨b, i, none⟩ = w.frozen? ⟨b, i, none⟩ :=
  World.frozen?_of_block (a := ⟨b, i, none⟩) (Below.heap_alloc _ _ _ h)
theorem cell_set_ne (w : World) (b1 o1 b o : Nat) (v : Value) (h : b1 ≠ b ∨ o1 ≠ o) : (w.setCell ⟨b1, o1, none⟩ v).cell? ⟨b, o, none⟩ = w.cell? ⟨b, o, none⟩ :=
  World.cell?_setCell_other _ _ _ _ (by simp; omega)
theorem cell_new (w : World) (c : Array Value) (T : TypeId) (b i : Nat) (h : b = w.heap.size) : (w.alloc (.cells c T)).cell? ⟨b, i, none⟩ = c[i]? := by
  subst h; simp
theorem frozen_new (w : World) (c : Array Value) (T : TypeId) (b i : Nat) (h : b = w.heap.size) : (w.alloc (.cells c T)).frozen? ⟨b, i, none⟩ = false := by
  rw [frozen?_alloc_cells]; subst h; simp [World.frozen?]

/-- The state of the loop: block B the result's (all zero), block B+1 the sketch, block B+2 the iterator. -/
structure St (w : World) (s : ByteArray) (pos : Nat) (n b : Nat) (wr : World) : Prop where
  c0 : wr.cell? ⟨w.heap.size + 1, 0, none⟩ = some (.int .i64 n)
  c1 : wr.cell? ⟨w.heap.size + 1, 1, none⟩ = some (.int .u64 b)
  f0 : wr.frozen? ⟨w.heap.size + 1, 0, none⟩ = false
  f1 : wr.frozen? ⟨w.heap.size + 1, 1, none⟩ = false
  d0 : wr.cell? ⟨w.heap.size, 0, none⟩ = some (.int .i64 0)
  d1 : wr.cell? ⟨w.heap.size, 1, none⟩ = some (.int .u64 0)
  g0 : wr.frozen? ⟨w.heap.size, 0, none⟩ = false
  g1 : wr.frozen? ⟨w.heap.size, 1, none⟩ = false
  it : wr.heap[w.heap.size + 1 + 1]? = some (.stringIter s pos)
  bel : Below w.heap.size w wr

theorem St.start (w : World) (s : ByteArray) :
    St w s 0 0 0 (((w.alloc (.cells #[.int .i64 0, .int .u64 0] 34)).alloc (.cells #[.int .i64 0, .int .u64 0] 34)).iter s 0) := by
  have hz : (w.alloc (.cells #[.int .i64 0, .int .u64 0] 34)).heap.size = w.heap.size + 1 := by simp
  have hz2 : ((w.alloc (.cells #[.int .i64 0, .int .u64 0] 34)).alloc (.cells #[.int .i64 0, .int .u64 0] 34)).heap.size = w.heap.size + 1 + 1 := by simp
  unfold World.iter
  refine ⟨?_, ?_, ?_, ?_, ?_, ?_, ?_, ?_, ?_, ?_⟩
  · rw [cell_alloc_lt _ _ _ _ (by omega), cell_new _ _ _ _ _ hz.symm]; rfl
  · rw [cell_alloc_lt _ _ _ _ (by omega), cell_new _ _ _ _ _ hz.symm]; rfl
  · rw [frozen_alloc_lt _ _ _ _ (by omega), frozen_new _ _ _ _ _ hz.symm]
  · rw [frozen_alloc_lt _ _ _ _ (by omega), frozen_new _ _ _ _ _ hz.symm]
  · rw [cell_alloc_lt _ _ _ _ (by omega), cell_alloc_lt _ _ _ _ (by omega), cell_new _ _ _ _ _ rfl]; rfl
  · rw [cell_alloc_lt _ _ _ _ (by omega), cell_alloc_lt _ _ _ _ (by omega), cell_new _ _ _ _ _ rfl]; rfl
  · rw [frozen_alloc_lt _ _ _ _ (by omega), frozen_alloc_lt _ _ _ _ (by omega), frozen_new _ _ _ _ _ rfl]
  · rw [frozen_alloc_lt _ _ _ _ (by omega), frozen_alloc_lt _ _ _ _ (by omega), frozen_new _ _ _ _ _ rfl]
  · rw [← hz2]; exact World.iter_heap ((w.alloc (.cells #[.int .i64 0, .int .u64 0] 34)).alloc (.cells #[.int .i64 0, .int .u64 0] 34)) s 0
  · exact (((Below.refl _ _).alloc (Nat.le_refl _) _).alloc (by omega) _).alloc (by omega) _

theorem St.move {w : World} {s : ByteArray} {pos n b : Nat} {wr : World} (h : St w s pos n b wr) (pos' : Nat) : St w s pos' n b (wr.iterAt (w.heap.size + 1 + 1) s pos') := by
  refine ⟨?_, ?_, ?_, ?_, ?_, ?_, ?_, ?_, Lib.iterAt_heap _ _ _ _ _ h.it, Lib.below_iterAt h.bel (by omega) _ _⟩
  · rw [iterAt_cell _ _ _ _ _ _ (by omega)]; exact h.c0
  · rw [iterAt_cell _ _ _ _ _ _ (by omega)]; exact h.c1
  · rw [iterAt_frozen _ _ _ _ _ _ (by omega)]; exact h.f0
  · rw [iterAt_frozen _ _ _ _ _ _ (by omega)]; exact h.f1
  · rw [iterAt_cell _ _ _ _ _ _ (by omega)]; exact h.d0
  · rw [iterAt_cell _ _ _ _ _ _ (by omega)]; exact h.d1
  · rw [iterAt_frozen _ _ _ _ _ _ (by omega)]; exact h.g0
  · rw [iterAt_frozen _ _ _ _ _ _ (by omega)]; exact h.g1

theorem St.put {w : World} {s : ByteArray} {pos n b : Nat} {wr : World} (h : St w s pos n b wr) (n' b' : Nat) :
    St w s pos n' b' ((wr.setCell ⟨w.heap.size + 1, 0, none⟩ (.int .i64 n')).setCell ⟨w.heap.size + 1, 1, none⟩ (.int .u64 b')) := by
  have e1 : (wr.setCell ⟨w.heap.size + 1, 0, none⟩ (.int .i64 n')).cell? ⟨w.heap.size + 1, 1, none⟩ = some (.int .u64 b) := by
    rw [cell_set_ne _ _ _ _ _ _ (by omega)]; exact h.c1
  refine ⟨?_, ?_, ?_, ?_, ?_, ?_, ?_, ?_, ?_, ?_⟩
  · rw [cell_set_ne _ _ _ _ _ _ (by omega)]; exact World.cell?_setCell_same _ _ _ h.c0
  · exact World.cell?_setCell_same _ _ _ e1
  · rw [World.frozen?_setCell, World.frozen?_setCell]; exact h.f0
  · rw [World.frozen?_setCell, World.frozen?_setCell]; exact h.f1
  · rw [cell_set_ne _ _ _ _ _ _ (by omega), cell_set_ne _ _ _ _ _ _ (by omega)]; exact h.d0
  · rw [cell_set_ne _ _ _ _ _ _ (by omega), cell_set_ne _ _ _ _ _ _ (by omega)]; exact h.d1
  · rw [World.frozen?_setCell, World.frozen?_setCell]; exact h.g0
  · rw [World.frozen?_setCell, World.frozen?_setCell]; exact h.g1
  · rw [Below.heap_setCell _ _ _ _ (by simp), Below.heap_setCell _ _ _ _ (by simp)]; exact h.it
  · exact (h.bel.setCell (by simp) _).setCell (by simp) _

theorem or_bit (done : List Nat) (r : Nat) : bits .or .u64 (Plain.bitsOf done) (IntKind.u64.wrap (2 ^ (r % 64))) = (Plain.bitsOf (done ++ [r]) : Nat) := by
  have h1 := Plain.bit_lt r
  have e : IntKind.u64.wrap (2 ^ (r % 64)) = (Plain.bit r : Nat) := by
    rw [IntKind.wrap_u64]
    have e2 : (2 : Int) ^ (r % 64) = ((Plain.bit r : Nat) : Int) := by simp [Plain.bit]
    rw [e2]
    omega
  rw [e, bits_or_u64_nat _ _ (Plain.bitsOf_lt _) h1, Plain.bitsOf_snoc]

set_option maxHeartbeats 400000 in
theorem sketch_any (s : ByteArray) (hs : s.size ≤ 2000000) (w : World) :
    Calls Try.prog 11 #[.string s] w fun e w' => e = .returned (.agg #[.int .i64 (Plain.rs s.data.toList).length, .int .u64 (Plain.bitsOf (Plain.rs s.data.toList))]) ∧ Below w.heap.size w w' := by
  have hst0 := St.start w s
  have hrl := Plain.rs_length _ s.data.toList (Nat.le_refl _)
  have hsl : s.data.toList.length = s.size := rfl
  go_enter Try.func11, Try.ntmps11
  go_wp2
  go_loopw [5] (fun _ wr => ∃ (pos : Nat) (done : List Nat), pos ≤ s.size ∧ Hid (done ++ Plain.rs (s.data.toList.drop pos) = Plain.rs s.data.toList) ∧ St w s pos done.length (Plain.bitsOf done) wr) (fun _ wr => s.size - wr.iterPos (w.heap.size + 1 + 1))
  case atStart => exact ⟨0, [], Nat.zero_le _, rfl, hst0⟩
  case round =>
    obtain ⟨pos, done, hps, hdone, hst⟩ := hrel
    clear hst0
    have hdl : done.length ≤ 2000000 := by
      have := congrArg List.length hdone.out
      simp at this
      omega
    by_cases hp : pos < s.size
    · have hne : s.data.toList.drop pos ≠ [] := by
        intro h
        have := congrArg List.length h
        simp at this
        omega
      have hsh := Plain.dec_shape _ hne
      have hst' := Plain.rs_step _ hne
      have hde := Plain.decode_dec s pos hps
      have hle := decode_le s pos
      have hnx : ∀ ty, (Instr.next (.pointer (some ⟨w.heap.size + 1 + 1, 0, none⟩)) true ty).run Try.prog wr = _ := fun ty => Lib.run_next_any_at wr (w.heap.size + 1 + 1) s pos ty hst.it hp
      have hS := hst.move (pos + (Utf8.decode s pos).2)
      have hmu : wr.iterPos (w.heap.size + 1 + 1) = pos := by simp [World.iterPos, hst.it]
      have HD : Hid (done ++ [(Utf8.decode s pos).1] ++ Plain.rs (s.data.toList.drop (pos + (Utf8.decode s pos).2)) = Plain.rs s.data.toList) := by
        have := hdone.out
        rw [hst', List.drop_drop] at this
        show _ = _
        rw [hde, ← this]
        simp
      have hw1 : pos + (Utf8.decode s pos).2 ≤ s.size := by
        have := hsh.2.1
        rw [hde]
        simp at this
        omega
      have hw2 : 1 ≤ (Utf8.decode s pos).2 := by rw [hde]; exact hsh.1
      have HM : Hid (wr.iterPos (w.heap.size + 1 + 1) = pos) := hmu
      clear hsh hst' hde hmu hdone hst hne
      generalize (Utf8.decode s pos).2 = wd at *
      generalize (Utf8.decode s pos).1 = r at *
      generalize wr.iterAt (w.heap.size + 1 + 1) s (pos + wd) = W1 at *
      have hS' := hS
      obtain ⟨c0, c1, f0, f1, -, -, -, -, -, -⟩ := hS
      go_wp2
      have HW : Hid (∀ v, ((W1.setCell ⟨w.heap.size + 1, 0, none⟩ (.int .i64 ((done.length : Int) + 1))).setCell ⟨w.heap.size + 1, 1, none⟩ v) = (W1.setCell ⟨w.heap.size + 1, 0, none⟩ (.int .i64 (((done ++ [r]).length : Nat) : Int))).setCell ⟨w.heap.size + 1, 1, none⟩ v) := by
        intro v
        simp
      go_roundw
      case rel =>
        refine ⟨pos + wd, done ++ [r], hw1, HD, ?_⟩
        rw [HW.out, or_bit]
        exact hS'.put _ _
      case measure =>
        rw [HM.out, HW.out, or_bit]
        have e := (hS'.put (done ++ [r]).length (Plain.bitsOf (done ++ [r]))).it
        have e2 : ((W1.setCell ⟨w.heap.size + 1, 0, none⟩ (.int .i64 (((done ++ [r]).length : Nat) : Int))).setCell ⟨w.heap.size + 1, 1, none⟩ (.int .u64 (Plain.bitsOf (done ++ [r]) : Nat))).iterPos (w.heap.size + 1 + 1) = pos + wd := by
          simp only [World.iterPos, e]
        rw [e2]
        omega
    · have hall : done = Plain.rs s.data.toList := by
        have := hdone.out
        rw [List.drop_eq_nil_of_le (by omega)] at this
        simpa [Plain.rs_nil] using this
      subst hall
      have hnx : ∀ ty, (Instr.next (.pointer (some ⟨w.heap.size + 1 + 1, 0, none⟩)) true ty).run Try.prog wr = _ := fun ty => Lib.run_next_end_at wr (w.heap.size + 1 + 1) s pos ty hst.it hp
      have hS' := hst
      obtain ⟨c0, c1, f0, f1, d0, d1, g0, g1, hit, hbel⟩ := hst
      clear hit hdone hrl
      go_wp2
      exact bodyPost_ret (v := .agg #[.int .i64 (Plain.rs s.data.toList).length, .int .u64 (Plain.bitsOf (Plain.rs s.data.toList))]) (by simp [results, Try.results11, go_sem, d0, d1]) rfl ⟨rfl, (hbel.setCell (by simp) _).setCell (by simp) _⟩

theorem below_drewN {B : Nat} {a w : World} (h : Below B a w) (n : Nat) : Below B a (w.drewN n) :=
  h.trans ⟨rfl, rfl, rfl, Nat.le_refl _, fun _ _ => rfl⟩
theorem bcell {W w1 : World} (hb : Below W.heap.size W w1) : (∀ b o, b < W.heap.size → w1.cell? ⟨b, o, none⟩ = W.cell? ⟨b, o, none⟩) ∧ (∀ b o, b < W.heap.size → w1.frozen? ⟨b, o, none⟩ = W.frozen? ⟨b, o, none⟩) :=
  ⟨fun b o h => hb.cell (p := ⟨b, o, none⟩) h, fun b o h => hb.frozen (p := ⟨b, o, none⟩) h⟩

set_option maxHeartbeats 400000 in
theorem zzSketch_any (s : ByteArray) (hs : s.size ≤ 2000000) (w : World) :
    Calls Try.prog 9 #[.string s] w fun e w' => e = .returned (.tuple #[.int .i64 (Plain.rs s.data.toList).length, .int .u64 (Plain.bitsOf (Plain.rs s.data.toList))]) ∧ Below w.heap.size w w' := by
  go_enter Try.func9, Try.ntmps9
  go_wp2_with (go_at_call 11; refine (sketch_any s hs _).mono ?_; rintro e w' ⟨rfl, hb⟩)
  go_quiet (fail)
  go_wp2
  go_ret2
  exact ⟨rfl, below_drewN (hb.alloc hb.size _) _⟩

set_option maxHeartbeats 400000 in
theorem bytesB_any (s : ByteArray) (hs : s.size ≤ maxLen) (i : Int) (w : World) :
    Calls Try.prog 10 #[.string s, .int .i64 i] w fun e w' => e = .returned (.bool (decide (s.size ≤ 1048576))) ∧ w' = w := by
  unfold maxLen at hs
  by_cases h : s.size ≤ 1048576
  · rw [decide_eq_true h]
    go_enter Try.func10, Try.ntmps10
    go_wp2
    go_ret
    exact ⟨rfl, rfl⟩
  · rw [decide_eq_false h]
    go_enter Try.func10, Try.ntmps10
    go_wp2
    go_ret
    exact ⟨rfl, rfl⟩
end Go.Proofs.Qxb6617777a
