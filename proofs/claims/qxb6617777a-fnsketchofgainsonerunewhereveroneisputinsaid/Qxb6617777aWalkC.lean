import Derived.Test.Qxb6617777aWalkA
import Derived.Test.Qxb6617777aPlainEnc
import Derived.Lib.AppendStr
import Derived.Lib.UnsafeStr
namespace Go.Proofs.Qxb6617777a
open Go.RowKit

theorem Try.info5 : (Try.prog.info? 5).map (fun i => (i.zero, i.size, i.bytes)) = some (some (.int .u8 0), 1, 1) := by kernel_rfl

set_option maxHeartbeats 400000 in
theorem bytesC_any (s : ByteArray) (hs : s.size ≤ maxLen) (i r : Int) (w : World) :
    Calls Try.prog 5 #[.string s, .int .i64 i, .int .i32 r] w fun e w' => e = .returned (.bool (decide (s.size ≤ 1048576))) ∧ w' = w := by
  unfold maxLen at hs
  by_cases h : s.size ≤ 1048576
  · rw [decide_eq_true h]
    go_enter Try.func5, Try.ntmps5
    go_wp2
    go_ret
    exact ⟨rfl, rfl⟩
  · rw [decide_eq_false h]
    go_enter Try.func5, Try.ntmps5
    go_wp2
    go_ret
    exact ⟨rfl, rfl⟩

set_option maxHeartbeats 400000 in
theorem canon_any (r : Int) (h1 : -2147483648 ≤ r) (h2 : r ≤ 2147483647) (w : World) :
    Calls Try.prog 7 #[.int .i32 r] w fun e w' => e = .returned (.int .u32 (Plain.canon r)) ∧ w' = w := by
  by_cases c1 : r < 0
  · have e : Plain.canon r = 65533 := by unfold Plain.canon; rw [if_pos (by omega)]
    rw [e]
    go_enter Try.func7, Try.ntmps7
    go_wp2
    go_ret
    exact ⟨rfl, rfl⟩
  · by_cases c2 : 1114111 < r
    · have e : Plain.canon r = 65533 := by unfold Plain.canon; rw [if_pos (by omega)]
      rw [e]
      go_enter Try.func7, Try.ntmps7
      go_wp2
      go_ret
      exact ⟨rfl, rfl⟩
    · by_cases c3 : 55296 ≤ r
      · by_cases c4 : r ≤ 57343
        · have e : Plain.canon r = 65533 := by unfold Plain.canon; rw [if_pos (by omega)]
          rw [e]
          go_enter Try.func7, Try.ntmps7
          go_wp2
          go_ret
          exact ⟨rfl, rfl⟩
        · have e : (Plain.canon r : Int) = r := by unfold Plain.canon; rw [if_neg (by omega)]; omega
          rw [e]
          clear e
          go_enter Try.func7, Try.ntmps7
          go_wp2
          go_ret
          exact ⟨rfl, rfl⟩
      · have e : (Plain.canon r : Int) = r := by unfold Plain.canon; rw [if_neg (by omega)]; omega
        rw [e]
        clear e
        go_enter Try.func7, Try.ntmps7
        go_wp2
        go_ret
        exact ⟨rfl, rfl⟩

theorem bits_or_u32_nat (a b : Nat) (ha : a < 4294967296) (hb : b < 4294967296) : bits .or .u32 (a : Int) (b : Int) = ((a ||| b : Nat) : Int) := by
  have hx : a ||| b < 2 ^ 32 := Nat.or_lt_two_pow (by omega) (by omega)
  have h1 : (BitVec.ofInt 32 (a : Int)).toNat = a := by
    rw [BitVec.ofInt_natCast, BitVec.toNat_ofNat]; exact Nat.mod_eq_of_lt (by omega)
  have h2 : (BitVec.ofInt 32 (b : Int)).toNat = b := by
    rw [BitVec.ofInt_natCast, BitVec.toNat_ofNat]; exact Nat.mod_eq_of_lt (by omega)
  show IntKind.u32.wrap ((BitVec.ofInt 32 (a : Int) ||| BitVec.ofInt 32 (b : Int)).toNat : Int) = _
  rw [BitVec.toNat_or, h1, h2, IntKind.wrap_u32]
  omega
theorem bits_and63_u32 (a : Nat) (ha : a < 4294967296) : bits .and .u32 (a : Int) 63 = ((a % 64 : Nat) : Int) := by
  have h1 : (BitVec.ofInt 32 (a : Int)).toNat = a := by
    rw [BitVec.ofInt_natCast, BitVec.toNat_ofNat]; exact Nat.mod_eq_of_lt (by omega)
  have h2 : (BitVec.ofInt 32 63).toNat = 63 := by decide
  show IntKind.u32.wrap ((BitVec.ofInt 32 (a : Int) &&& BitVec.ofInt 32 63).toNat : Int) = _
  have h3 : a &&& 63 = a % 64 := Nat.and_two_pow_sub_one_eq_mod a 6
  rw [BitVec.toNat_and, h1, h2, h3, IntKind.wrap_u32]
  omega
theorem or128 : ∀ x, x < 64 → 128 ||| x = 128 + x := by decide
theorem or192 : ∀ x, x < 32 → 192 ||| x = 192 + x := by decide
theorem or224 : ∀ x, x < 16 → 224 ||| x = 224 + x := by decide
theorem or240 : ∀ x, x < 8 → 240 ||| x = 240 + x := by decide

theorem cont_byte (x : Nat) (h : x < 4294967296) (y : Int) (hy : y = (x : Int)) : bits .or .u32 128 (bits .and .u32 y 63) % 256 = ((Plain.b8 (128 + x % 64)).toNat : Int) := by
  subst hy
  rw [bits_and63_u32 x h, show (128 : Int) = ((128 : Nat) : Int) from rfl, bits_or_u32_nat _ _ (by omega) (by omega), or128 _ (by omega), Plain.b8_nat _ (by omega)]
  omega
theorem head2 (x : Nat) (h : x < 32) (y : Int) (hy : y = (x : Int)) : bits .or .u32 192 y % 256 = ((Plain.b8 (192 + x)).toNat : Int) := by
  subst hy
  rw [show (192 : Int) = ((192 : Nat) : Int) from rfl, bits_or_u32_nat _ _ (by omega) (by omega), or192 _ (by omega), Plain.b8_nat _ (by omega)]
  omega
theorem head3 (x : Nat) (h : x < 16) (y : Int) (hy : y = (x : Int)) : bits .or .u32 224 y % 256 = ((Plain.b8 (224 + x)).toNat : Int) := by
  subst hy
  rw [show (224 : Int) = ((224 : Nat) : Int) from rfl, bits_or_u32_nat _ _ (by omega) (by omega), or224 _ (by omega), Plain.b8_nat _ (by omega)]
  omega
theorem head4 (x : Nat) (h : x < 8) (y : Int) (hy : y = (x : Int)) : bits .or .u32 240 y % 256 = ((Plain.b8 (240 + x)).toNat : Int) := by
  subst hy
  rw [show (240 : Int) = ((240 : Nat) : Int) from rfl, bits_or_u32_nat _ _ (by omega) (by omega), or240 _ (by omega), Plain.b8_nat _ (by omega)]
  omega

set_option maxRecDepth 100000 in
set_option maxHeartbeats 1000000 in
theorem appendRune_any (base : Nat) (c : Nat) (hc : c ≤ 1114111) (v : Value) (n : Nat) (l : List UInt8) (w : World) (hown : w.ownsRow base 5 1 v n (Lib.byteCells l)) (hn : n ≤ 2000000) (hbase : base ≤ w.heap.size) :
    Calls Try.prog 8 #[v, .int .u32 c] w fun e w' => ∃ v', e = .returned v' ∧ w'.ownsRow base 5 1 v' (n + (Plain.enc c).length) (Lib.byteCells (l ++ Plain.enc c)) ∧ Below base w w' := by
  obtain ⟨i, hi, hz0, hz1, hz2⟩ := info_parts Try.info5
  rw [Lib.byteCells_append]
  by_cases c1 : c < 128
  · have he : Plain.enc c = [Plain.b8 c] := by unfold Plain.enc; rw [if_pos c1]
    have hx : ((Plain.b8 c).toNat : Int) = c := by rw [Plain.b8_nat _ (by omega)]
    rw [he]
    simp only [Lib.byteCells, List.map_cons, List.map_nil, hx, List.length_cons, List.length_nil] at *
    clear he hx
    go_enter Try.func8, Try.ntmps8
    go_wp2_with (first | (at_builtin; refine wpList_append_own _ rfl _ _ 26 rfl base 5 i (.int .u8 0) 1 1 Try.underlying26 hi hz0 hz1 hz2 rfl (by decide) v _ _ rfl (hown.alloc _) ⟨w.heap.size, 0, none⟩ 1 1 [_] rfl rfl (cell_one_new _ _ _) (fun x hx => by simp at hx; subst hx; rfl) (by unfold maxLen; omega) (by omega) (by simp; omega) ?_; intro v1 w1 hown1 hg1 hnil1; have hB1 := ((Below.refl base w).alloc (by omega) _).grown hg1 (by simp; omega) (fun k hk => (hown.lt k hk).1); clear hown hg1 hnil1))
    go_ret
    exact ⟨_, rfl, hown1, hB1⟩
  · by_cases c2 : c < 2048
    · have he : Plain.enc c = [Plain.b8 (192 + c / 64), Plain.b8 (128 + c % 64)] := by unfold Plain.enc; rw [if_neg c1, if_pos c2]
      rw [he]
      clear he
      have H1 := head2 (c / 64) (by omega) ((c : Int) / 64) (by omega)
      have H2 := cont_byte c (by omega) c rfl
      simp only [Lib.byteCells, List.map_cons, List.map_nil, List.length_cons, List.length_nil, ← H1, ← H2] at *
      clear H1 H2
      go_enter Try.func8, Try.ntmps8
      go_wp2_with (first | (at_builtin; refine wpList_append_own _ rfl _ _ 26 rfl base 5 i (.int .u8 0) 1 1 Try.underlying26 hi hz0 hz1 hz2 rfl (by decide) v _ _ rfl (hown.alloc _) ⟨w.heap.size, 0, none⟩ 1 1 [_] rfl rfl (cell_one_new _ _ _) (fun x hx => by simp at hx; subst hx; rfl) (by unfold maxLen; omega) (by omega) (by simp; omega) ?_; intro v1 w1 hown1 hg1 hnil1; have hB1 := ((Below.refl base w).alloc (by omega) _).grown hg1 (by simp; omega) (fun k hk => (hown.lt k hk).1); clear hown hg1 hnil1) | (at_builtin; refine wpList_append_own _ rfl _ _ 26 rfl base 5 i (.int .u8 0) 1 1 Try.underlying26 hi hz0 hz1 hz2 rfl (by decide) v1 _ _ rfl (hown1.alloc _) ⟨w1.heap.size, 0, none⟩ 1 1 [_] rfl rfl (cell_one_new _ _ _) (fun x hx => by simp at hx; subst hx; rfl) (by unfold maxLen; omega) (by omega) (by have := hB1.size; simp; omega) ?_; intro v2 w2 hown2 hg2 hnil2; have hB2 := (hB1.alloc (by have := hB1.size; omega) _).grown hg2 (by have := hB1.size; simp; omega) (fun k hk => (hown1.lt k hk).1); clear hown1 hg2 hnil2))
      go_ret
      exact ⟨_, rfl, by simpa using hown2, hB2⟩
    · by_cases c3 : c < 65536
      · have he : Plain.enc c = [Plain.b8 (224 + c / 4096), Plain.b8 (128 + c / 64 % 64), Plain.b8 (128 + c % 64)] := by unfold Plain.enc; rw [if_neg c1, if_neg c2, if_pos c3]
        rw [he]
        clear he
        have H1 := head3 (c / 4096) (by omega) ((c : Int) / 4096) (by omega)
        have H2 := cont_byte (c / 64) (by omega) ((c : Int) / 64) (by omega)
        have H3 := cont_byte c (by omega) c rfl
        simp only [Lib.byteCells, List.map_cons, List.map_nil, List.length_cons, List.length_nil, ← H1, ← H2, ← H3] at *
        clear H1 H2 H3
        have d1 : ¬ (c : Int) < 128 := by omega
        have d2 : ¬ (c : Int) < 2048 := by omega
        have d3 : (c : Int) < 65536 := by omega
        have d0 : (c : Int) ≤ 1114111 := by omega
        clear c1 c2 c3 hc
        go_enter Try.func8, Try.ntmps8
        go_wp2_with (first | (at_builtin; refine wpList_append_own _ rfl _ _ 26 rfl base 5 i (.int .u8 0) 1 1 Try.underlying26 hi hz0 hz1 hz2 rfl (by decide) v _ _ rfl (hown.alloc _) ⟨w.heap.size, 0, none⟩ 1 1 [_] rfl rfl (cell_one_new _ _ _) (fun x hx => by simp at hx; subst hx; rfl) (by unfold maxLen; omega) (by omega) (by simp; omega) ?_; intro v1 w1 hown1 hg1 hnil1; have hB1 := ((Below.refl base w).alloc (by omega) _).grown hg1 (by simp; omega) (fun k hk => (hown.lt k hk).1); clear hown hg1 hnil1) | (at_builtin; refine wpList_append_own _ rfl _ _ 26 rfl base 5 i (.int .u8 0) 1 1 Try.underlying26 hi hz0 hz1 hz2 rfl (by decide) v1 _ _ rfl (hown1.alloc _) ⟨w1.heap.size, 0, none⟩ 1 1 [_] rfl rfl (cell_one_new _ _ _) (fun x hx => by simp at hx; subst hx; rfl) (by unfold maxLen; omega) (by omega) (by have := hB1.size; simp; omega) ?_; intro v2 w2 hown2 hg2 hnil2; have hB2 := (hB1.alloc (by have := hB1.size; omega) _).grown hg2 (by have := hB1.size; simp; omega) (fun k hk => (hown1.lt k hk).1); clear hown1 hg2 hnil2) | (at_builtin; refine wpList_append_own _ rfl _ _ 26 rfl base 5 i (.int .u8 0) 1 1 Try.underlying26 hi hz0 hz1 hz2 rfl (by decide) v2 _ _ rfl (hown2.alloc _) ⟨w2.heap.size, 0, none⟩ 1 1 [_] rfl rfl (cell_one_new _ _ _) (fun x hx => by simp at hx; subst hx; rfl) (by unfold maxLen; omega) (by omega) (by have := hB2.size; simp; omega) ?_; intro v3 w3 hown3 hg3 hnil3; have hB3 := (hB2.alloc (by have := hB2.size; omega) _).grown hg3 (by have := hB2.size; simp; omega) (fun k hk => (hown2.lt k hk).1); clear hown2 hg3 hnil3))
        go_ret
        exact ⟨_, rfl, by simpa using hown3, hB3⟩
      · have he : Plain.enc c = [Plain.b8 (240 + c / 262144), Plain.b8 (128 + c / 4096 % 64), Plain.b8 (128 + c / 64 % 64), Plain.b8 (128 + c % 64)] := by unfold Plain.enc; rw [if_neg c1, if_neg c2, if_neg c3]
        rw [he]
        clear he
        have H1 := head4 (c / 262144) (by omega) ((c : Int) / 262144) (by omega)
        have H2 := cont_byte (c / 4096) (by omega) ((c : Int) / 4096) (by omega)
        have H3 := cont_byte (c / 64) (by omega) ((c : Int) / 64) (by omega)
        have H4 := cont_byte c (by omega) c rfl
        simp only [Lib.byteCells, List.map_cons, List.map_nil, List.length_cons, List.length_nil, ← H1, ← H2, ← H3, ← H4] at *
        clear H1 H2 H3 H4
        have d1 : ¬ (c : Int) < 128 := by omega
        have d2 : ¬ (c : Int) < 2048 := by omega
        have d3 : ¬ (c : Int) < 65536 := by omega
        have d0 : (c : Int) ≤ 1114111 := by omega
        clear c1 c2 c3 hc
        go_enter Try.func8, Try.ntmps8
        go_wp2_with (first | (at_builtin; refine wpList_append_own _ rfl _ _ 26 rfl base 5 i (.int .u8 0) 1 1 Try.underlying26 hi hz0 hz1 hz2 rfl (by decide) v _ _ rfl (hown.alloc _) ⟨w.heap.size, 0, none⟩ 1 1 [_] rfl rfl (cell_one_new _ _ _) (fun x hx => by simp at hx; subst hx; rfl) (by unfold maxLen; omega) (by omega) (by simp; omega) ?_; intro v1 w1 hown1 hg1 hnil1; have hB1 := ((Below.refl base w).alloc (by omega) _).grown hg1 (by simp; omega) (fun k hk => (hown.lt k hk).1); clear hown hg1 hnil1) | (at_builtin; refine wpList_append_own _ rfl _ _ 26 rfl base 5 i (.int .u8 0) 1 1 Try.underlying26 hi hz0 hz1 hz2 rfl (by decide) v1 _ _ rfl (hown1.alloc _) ⟨w1.heap.size, 0, none⟩ 1 1 [_] rfl rfl (cell_one_new _ _ _) (fun x hx => by simp at hx; subst hx; rfl) (by unfold maxLen; omega) (by omega) (by have := hB1.size; simp; omega) ?_; intro v2 w2 hown2 hg2 hnil2; have hB2 := (hB1.alloc (by have := hB1.size; omega) _).grown hg2 (by have := hB1.size; simp; omega) (fun k hk => (hown1.lt k hk).1); clear hown1 hg2 hnil2) | (at_builtin; refine wpList_append_own _ rfl _ _ 26 rfl base 5 i (.int .u8 0) 1 1 Try.underlying26 hi hz0 hz1 hz2 rfl (by decide) v2 _ _ rfl (hown2.alloc _) ⟨w2.heap.size, 0, none⟩ 1 1 [_] rfl rfl (cell_one_new _ _ _) (fun x hx => by simp at hx; subst hx; rfl) (by unfold maxLen; omega) (by omega) (by have := hB2.size; simp; omega) ?_; intro v3 w3 hown3 hg3 hnil3; have hB3 := (hB2.alloc (by have := hB2.size; omega) _).grown hg3 (by have := hB2.size; simp; omega) (fun k hk => (hown2.lt k hk).1); clear hown2 hg3 hnil3) | (at_builtin; refine wpList_append_own _ rfl _ _ 26 rfl base 5 i (.int .u8 0) 1 1 Try.underlying26 hi hz0 hz1 hz2 rfl (by decide) v3 _ _ rfl (hown3.alloc _) ⟨w3.heap.size, 0, none⟩ 1 1 [_] rfl rfl (cell_one_new _ _ _) (fun x hx => by simp at hx; subst hx; rfl) (by unfold maxLen; omega) (by omega) (by have := hB3.size; simp; omega) ?_; intro v4 w4 hown4 hg4 hnil4; have hB4 := (hB3.alloc (by have := hB3.size; omega) _).grown hg4 (by have := hB3.size; simp; omega) (fun k hk => (hown3.lt k hk).1); clear hown3 hg4 hnil4))
        go_ret
        exact ⟨_, rfl, by simpa using hown4, hB4⟩
end Go.Proofs.Qxb6617777a
