import Derived.Test.Qxb6618889aWalkC
namespace Go.Proofs.Qxb6618889a
open Go.RowKit

/-- A slice of bytes that holds l. -/
def IsBytes (w : World) (a : Option Addr) (n c : Nat) (l : List UInt8) : Prop :=
  (n = 0 ∧ l = [] ∧ (a = none → c = 0)) ∨ ∃ g o, a = some ⟨g, o, none⟩ ∧ l.length = n ∧ 1 ≤ n ∧ n ≤ c ∧ BytesAt w g o l
theorem IsBytes.below {w w' : World} {a : Option Addr} {n c : Nat} {l : List UInt8} (h : IsBytes w a n c l) (hb : Below w.heap.size w w') : IsBytes w' a n c l := by
  rcases h with h | ⟨g, o, h1, h2, h3, h4, h5⟩
  · exact .inl h
  · exact .inr ⟨g, o, h1, h2, h3, h4, h5.below hb⟩

/-- A nat of math/big that is V, without zeros at its end. -/
def NatRep (lo : Nat) (w : World) (a : Option Addr) (i : Nat) (V : Nat) : Prop :=
  (i = 0 ∧ V = 0) ∨ ∃ B m, a = some ⟨B, 0, none⟩ ∧ lo ≤ B ∧ i = m + 1 ∧ m < 100000 ∧ V < 2 ^ (64 * (m + 1)) ∧ 2 ^ (64 * m) ≤ V ∧ w.cell? ⟨B, m, none⟩ = some (.int .u64 (Plain.wd V m))
theorem NatRep.below {lo : Nat} {w w' : World} {a : Option Addr} {i : Nat} {V : Nat} (h : NatRep lo w a i V) (hb : Below w.heap.size w w') : NatRep lo w' a i V := by
  rcases h with h | ⟨B, m, h1, h0, h2, h3, h4, h5, h6⟩
  · exact .inl h
  · exact .inr ⟨B, m, h1, h0, h2, h3, h4, h5, by rw [hb.cell (World.block_lt_of_cell? w _ h6)]; exact h6⟩

theorem NatRep.setCell {lo : Nat} {w : World} {a : Option Addr} {i : Nat} {V : Nat} (h : NatRep lo w a i V) (b o : Nat) (v : Value) (hb : b < lo) : NatRep lo (w.setCell ⟨b, o, none⟩ v) a i V := by
  rcases h with h | ⟨B, m, h1, h0, h2, h3, h4, h5, h6⟩
  · exact .inl h
  · exact .inr ⟨B, m, h1, h0, h2, h3, h4, h5, by rw [World.cell?_setCell_other _ _ _ _ (by intro h; injection h with h1 h2; omega)]; exact h6⟩

theorem setBytes_rep (a : Option Addr) (n c : Nat) (l : List UInt8) (w : World) (hb : IsBytes w a n c l) (hn : n ≤ 70000) :
    Calls Try.prog 20 #[.slice none 0 0, .slice a n c] w fun e w' => ∃ a' i cap, e = .returned (.slice a' i cap) ∧ NatRep w.heap.size w' a' i (Plain.bv l) ∧ Below w.heap.size w w' := by
  rcases hb with ⟨rfl, rfl, -⟩ | ⟨g, o, rfl, h2, h3, h4, h5⟩
  · refine (setBytes_empty a c w).mono ?_
    rintro e w' ⟨rfl, rfl⟩
    exact ⟨none, 0, 0, rfl, .inl ⟨rfl, rfl⟩, Below.refl _ _⟩
  · refine (setBytes_any g o c n l h2 w h3 hn h4 h5).mono ?_
    rintro e w' ⟨i, cap, rfl, hi, hok, hcells, hbel⟩
    refine ⟨_, i, cap, rfl, ?_, hbel⟩
    obtain ⟨k1, k2, k3⟩ := hok
    by_cases h0 : i = 0
    · subst h0
      left
      exact ⟨rfl, by simpa using k2⟩
    · right
      obtain ⟨m, rfl⟩ : ∃ m, i = m + 1 := ⟨i - 1, by omega⟩
      refine ⟨_, m, rfl, Nat.le_refl _, rfl, by omega, k2, ?_, hcells m (by omega)⟩
      rcases k3 with k3 | k3
      · omega
      · simpa using k3

theorem bitLen_rep (a : Option Addr) (i cap V : Nat) (w : World) (lo : Nat) (h : NatRep lo w a i V) :
    Calls Try.prog 21 #[.slice a i cap] w fun e w' => ∃ bl : Nat, e = .returned (.int .i64 bl) ∧ Plain.IsBL V bl ∧ bl ≤ 10000000 ∧ w' = w := by
  rcases h with ⟨rfl, rfl⟩ | ⟨B, m, rfl, -, rfl, h3, h4, h5, h6⟩
  · refine (bitLen_empty a cap w).mono ?_
    rintro e w' ⟨rfl, rfl⟩
    exact ⟨0, rfl, Plain.isBL_zero, by omega, rfl⟩
  · refine (bitLen_pos B m cap V h3 w h6 h4 h5).mono ?_
    rintro e w' ⟨bl, rfl, hbl, hle, rfl⟩
    exact ⟨bl, rfl, hbl, by omega, rfl⟩

set_option maxHeartbeats 400000 in
theorem SetBytes_any (b : Nat) (a : Option Addr) (n c : Nat) (l : List UInt8) (x : Bool) (w : World) (hb : IsBytes w a n c l) (hn : n ≤ 70000)
    (c0 : w.cell? ⟨b, 0, none⟩ = some (.bool x)) (c1 : w.cell? ⟨b, 1, none⟩ = some (.slice none 0 0)) (f0 : w.frozen? ⟨b, 0, none⟩ = false) (f1 : w.frozen? ⟨b, 1, none⟩ = false) :
    Calls Try.prog 11 #[.pointer (some ⟨b, 0, none⟩), .slice a n c] w fun e w' => ∃ a' i cap, e = .returned (.pointer (some ⟨b, 0, none⟩)) ∧ w'.cell? ⟨b, 1, none⟩ = some (.slice a' i cap) ∧ NatRep w.heap.size w' a' i (Plain.bv l) ∧ Below b w w' := by
  have hblt : b < w.heap.size := World.block_lt_of_cell? w ⟨b, 0, none⟩ c0
  go_enter Try.func11, Try.ntmps11
  go_wp2_with fail
  refine (setBytes_rep a n c l _ hb hn).mono ?_
  rintro e w1 ⟨a', i, cap, rfl, hrep, hB⟩
  have d0 : w1.cell? ⟨b, 0, none⟩ = some (.bool x) := by rw [hB.cell (p := ⟨b, 0, none⟩) hblt]; exact c0
  have d1 : w1.cell? ⟨b, 1, none⟩ = some (.slice none 0 0) := by rw [hB.cell (p := ⟨b, 1, none⟩) hblt]; exact c1
  have g0 : w1.frozen? ⟨b, 0, none⟩ = false := by rw [hB.frozen (p := ⟨b, 0, none⟩) hblt]; exact f0
  have g1 : w1.frozen? ⟨b, 1, none⟩ = false := by rw [hB.frozen (p := ⟨b, 1, none⟩) hblt]; exact f1
  have HR := Bx.mk hrep
  clear hrep
  go_wp2
  go_ret
  refine ⟨a', i, cap, rfl, ?_, (HR.out.setCell b 1 _ hblt).setCell b 0 _ hblt, ((hB.mono (Nat.le_of_lt hblt)).setCell (Nat.le_refl _) _).setCell (Nat.le_refl _) _⟩
  rw [World.cell?_setCell_other _ _ _ _ (by simp)]
  exact World.cell?_setCell_same _ _ _ d1

set_option maxHeartbeats 400000 in
theorem BitLen_any (b : Nat) (a : Option Addr) (i cap V lo : Nat) (w : World) (c1 : w.cell? ⟨b, 1, none⟩ = some (.slice a i cap)) (h : NatRep lo w a i V) :
    Calls Try.prog 12 #[.pointer (some ⟨b, 0, none⟩)] w fun e w' => ∃ bl : Nat, e = .returned (.int .i64 bl) ∧ Plain.IsBL V bl ∧ bl ≤ 10000000 ∧ w' = w := by
  go_enter Try.func12, Try.ntmps12
  go_wp2_with fail
  refine (bitLen_rep a i cap V _ lo h).mono ?_
  rintro e w' ⟨bl, rfl, hbl, hle, rfl⟩
  have HB := Bx.mk hbl
  clear hbl
  go_wp2
  go_ret
  exact ⟨bl, rfl, HB.out, hle, rfl⟩

set_option maxHeartbeats 400000 in
theorem Size_any (p b : Nat) (a : Option Addr) (i cap V lo : Nat) (w : World) (c0 : w.cell? ⟨p, 0, none⟩ = some (.pointer (some ⟨b, 0, none⟩))) (c1 : w.cell? ⟨b, 1, none⟩ = some (.slice a i cap)) (h : NatRep lo w a i V) :
    Calls Try.prog 13 #[.pointer (some ⟨p, 0, none⟩)] w fun e w' => ∃ bl : Nat, e = .returned (.int .i64 ((bl + 7) / 8 : Nat)) ∧ Plain.IsBL V bl ∧ bl ≤ 10000000 ∧ w' = w := by
  go_enter Try.func13, Try.ntmps13
  go_wp2_with fail
  refine (BitLen_any b a i cap V lo _ c1 h).mono ?_
  rintro e w' ⟨bl, rfl, hbl, hle, rfl⟩
  have HB := Bx.mk hbl
  clear hbl
  go_wp2
  go_ret
  refine ⟨bl, ?_, HB.out, hle, rfl⟩
  exact congrArg Ending.returned (congrArg (Value.int IntKind.i64) (by push_cast; omega))

theorem isBL_inj (V a b : Nat) (ha : Plain.IsBL V a) (hb : Plain.IsBL V b) : a = b := by
  obtain ⟨a1, a2⟩ := ha
  obtain ⟨b1, b2⟩ := hb
  have h1 : a ≤ b := by
    rcases a2 with h | h
    · omega
    · have := Plain.lt_of_pow (Nat.lt_of_le_of_lt h b1); omega
  have h2 : b ≤ a := by
    rcases b2 with h | h
    · omega
    · have := Plain.lt_of_pow (Nat.lt_of_le_of_lt h a1); omega
  omega

theorem assert_yes (v : Value) (w : World) : (Instr.typeAssert (.iface 27 v) 44 27 true).run Try.prog w = .ok (.tuple #[v, .bool true]) w := by
  simp [Instr.typeAssert, run_underlying Try.underlying27]
theorem Try.info27 : (Try.prog.info? 27).map (fun i => i.zero) = some (some (.pointer none)) := by kernel_rfl
theorem assert_no (v : Value) (w : World) : (Instr.typeAssert (.iface 43 v) 44 27 true).run Try.prog w = .ok (.tuple #[.pointer none, .bool false]) w := by
  obtain ⟨i, hi, hz⟩ := Option.map_eq_some_iff.1 Try.info27
  simp [Instr.typeAssert, run_underlying Try.underlying27, zeroValue, typeInfo, hi, hz]

set_option maxHeartbeats 400000 in
theorem sizeRSA_no (v : Value) (w : World) : Calls Try.prog 10 #[.iface 43 v] w fun e w' => e = .returned (.int .i64 0) ∧ w' = w := by
  have ha := assert_no v
  go_enter Try.func10, Try.ntmps10
  go_wp2
  go_ret
  exact ⟨rfl, rfl⟩

set_option maxRecDepth 100000 in
set_option maxHeartbeats 400000 in
theorem sizeRSA_any (p b : Nat) (a : Option Addr) (i cap V lo : Nat) (w : World) (c0 : w.cell? ⟨p, 0, none⟩ = some (.pointer (some ⟨b, 0, none⟩))) (c1 : w.cell? ⟨b, 1, none⟩ = some (.slice a i cap)) (h : NatRep lo w a i V) :
    Calls Try.prog 10 #[.iface 27 (.pointer (some ⟨p, 0, none⟩))] w fun e w' => ∃ bl, e = .returned (.int .i64 (Plain.gSize bl)) ∧ Plain.IsBL V bl ∧ w' = w := by
  have H := Bx.mk h
  clear h
  have ha := assert_yes (.pointer (some ⟨p, 0, none⟩))
  go_enter Try.func10, Try.ntmps10
  go_wp2_with fail
  refine (BitLen_any b a i cap V lo _ c1 H.out).mono ?_
  rintro e w' ⟨bl, rfl, hbl, hle, rfl⟩
  have HBL := Bx.mk hbl
  clear hbl
  by_cases hge : 2048 ≤ bl
  · have hg : Hid (Plain.gSize bl = (bl + 7) / 8) := by show _ = _; unfold Plain.gSize; rw [if_pos hge]
    have hgI : (2048 : Int) ≤ (bl : Int) := by omega
    clear hge
    go_wp2_with fail
    refine (Size_any p b a i cap V lo _ c0 c1 H.out).mono ?_
    rintro e w2 ⟨bl2, rfl, hbl2, hle2, rfl⟩
    have e := isBL_inj V bl2 bl hbl2 HBL.out
    subst e
    clear hbl2
    go_wp2
    go_ret
    exact ⟨bl2, by rw [hg.out]; rfl, HBL.out, rfl⟩
  · have hg : Hid (Plain.gSize bl = 0) := by show _ = _; unfold Plain.gSize; rw [if_neg hge]
    have hgI : (bl : Int) < 2048 := by omega
    clear hge
    go_wp2
    go_ret
    exact ⟨bl, by rw [hg.out]; rfl, HBL.out, rfl⟩

set_option maxHeartbeats 400000 in
theorem ZZSizeEd_any (a : Option Addr) (n c : Nat) (w : World) : Calls Try.prog 8 #[.slice a n c] w fun e w' => e = .returned (.int .i64 0) ∧ w' = w := by
  go_enter Try.func8, Try.ntmps8
  go_wp2_with fail
  refine (sizeRSA_no _ _).mono ?_
  rintro e w' ⟨rfl, rfl⟩
  go_wp2
  go_ret
  exact ⟨rfl, rfl⟩

set_option maxHeartbeats 400000 in
theorem ZZSize_any (a : Option Addr) (n c : Nat) (l : List UInt8) (w : World) (hb : IsBytes w a n c l) (hn : n ≤ 70000) :
    Calls Try.prog 7 #[.slice a n c] w fun e w' => e = .returned (.int .i64 (Plain.rsaSize l)) ∧ Below w.heap.size w w' := by
  have hA : Below w.heap.size w (w.alloc (.cells #[.bool false, .slice none 0 0] 32)) := (Below.refl _ _).alloc (Nat.le_refl _) _
  have hbA := hb.below hA
  go_enter Try.func7, Try.ntmps7
  go_wp2_with fail
  refine (SetBytes_any w.heap.size a n c l false _ hbA hn (by simp) (by simp) (by rw [frozen?_alloc_cells]; simp [World.frozen?]) (by rw [frozen?_alloc_cells]; simp [World.frozen?])).mono ?_
  rintro e w1 ⟨a', i, cap, rfl, hc1, hrep, hB⟩
  have hB1 := hA.trans hB
  have hlt : w.heap.size < w1.heap.size := World.block_lt_of_cell? w1 ⟨w.heap.size, 1, none⟩ hc1
  have HR := Bx.mk hrep
  clear hrep hb hbA hA hB
  have hal : Below w1.heap.size w1 (w1.alloc (.cells #[.pointer (some ⟨w.heap.size, 0, none⟩), .int .i64 0, .pointer none, .slice none 0 0, .pointer none, .pointer none, .pointer none, .slice none 0 0, .pointer none] 42)) := (Below.refl _ _).alloc (Nat.le_refl _) _
  go_wp2_with fail
  refine (sizeRSA_any w1.heap.size w.heap.size a' i cap (Plain.bv l) _ _ (by simp) (by rw [hal.cell (p := ⟨w.heap.size, 1, none⟩) hlt]; exact hc1) (HR.out.below hal)).mono ?_
  rintro e w2 ⟨bl, rfl, hbl, rfl⟩
  have hg := Plain.gSize_rsaSize l bl hbl
  rw [hg]
  clear hbl hg HR
  have hB2 := hB1.trans (hal.mono hB1.size)
  go_wp2
  go_ret
  exact ⟨rfl, hB2⟩
end Go.Proofs.Qxb6618889a
