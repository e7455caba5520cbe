import Derived.WalkKit
import Derived.Laws.Bits64b
namespace Go.Proofs.Qxb6618999aDoor
open Go
set_option maxRecDepth 100000
theorem two_pow_pos' (h : Nat) : 0 < 2 ^ h := Nat.two_pow_pos h
theorem bits_or_u32_nat (a b : Nat) (ha : a < 4294967296) (hb : b < 4294967296) : bits .or .u32 (a : Int) (b : Int) = ((a ||| b : Nat) : Int) := by
  have hx : a ||| b < 2 ^ 32 := Nat.or_lt_two_pow (by omega) (by omega)
  have h1 : (BitVec.ofInt 32 (a : Int)).toNat = a := by
    rw [BitVec.ofInt_natCast, BitVec.toNat_ofNat]; exact Nat.mod_eq_of_lt (by omega)
  have h2 : (BitVec.ofInt 32 (b : Int)).toNat = b := by
    rw [BitVec.ofInt_natCast, BitVec.toNat_ofNat]; exact Nat.mod_eq_of_lt (by omega)
  show IntKind.u32.wrap ((BitVec.ofInt 32 (a : Int) ||| BitVec.ofInt 32 (b : Int)).toNat : Int) = _
  rw [BitVec.toNat_or, h1, h2, IntKind.wrap_u32]
  omega
theorem bits_and_u32_nat' (a b : Nat) (ha : a < 4294967296) (hb : b < 4294967296) : bits .and .u32 (a : Int) (b : Int) = ((a &&& b : Nat) : Int) := by
  have hx : a &&& b < 2 ^ 32 := Nat.and_lt_two_pow _ (by omega)
  have h1 : (BitVec.ofInt 32 (a : Int)).toNat = a := by
    rw [BitVec.ofInt_natCast, BitVec.toNat_ofNat]; exact Nat.mod_eq_of_lt (by omega)
  have h2 : (BitVec.ofInt 32 (b : Int)).toNat = b := by
    rw [BitVec.ofInt_natCast, BitVec.toNat_ofNat]; exact Nat.mod_eq_of_lt (by omega)
  show IntKind.u32.wrap ((BitVec.ofInt 32 (a : Int) &&& BitVec.ofInt 32 (b : Int)).toNat : Int) = _
  rw [BitVec.toNat_and, h1, h2, IntKind.wrap_u32]
  omega
theorem maskN (N h : Nat) (hh : h ≤ N) : ((2 ^ N - 1) * 2 ^ h) % 2 ^ N = 2 ^ N - 2 ^ h := by
  have h1 : 2 ^ h ≤ 2 ^ N := Nat.pow_le_pow_right (by omega) hh
  have h2 := Nat.two_pow_pos h
  have h3 := Nat.two_pow_pos N
  have e : (2 ^ N - 1) * 2 ^ h = 2 ^ N * (2 ^ h - 1) + (2 ^ N - 2 ^ h) := by
    rw [Nat.sub_mul, Nat.mul_sub, Nat.one_mul, Nat.mul_one]
    have : 2 ^ N ≤ 2 ^ N * 2 ^ h := Nat.le_mul_of_pos_right _ h2
    omega
  rw [e, Nat.mul_add_mod, Nat.mod_eq_of_lt (by omega)]
theorem andN (N h x : Nat) (hh : h ≤ N) (hx : x < 2 ^ N) : x &&& (2 ^ N - 2 ^ h) = x - x % 2 ^ h := by
  have e1 : 2 ^ N - 2 ^ h = (2 ^ (N - h) - 1) <<< h := by
    rw [Nat.shiftLeft_eq, Nat.sub_mul, Nat.one_mul, ← Nat.pow_add, Nat.sub_add_cancel hh]
  have e2 : x - x % 2 ^ h = (x >>> h) <<< h := by
    rw [Nat.shiftLeft_eq, Nat.shiftRight_eq_div_pow]
    have := Nat.div_add_mod x (2 ^ h)
    rw [Nat.mul_comm] at this
    omega
  rw [e1, e2]
  apply Nat.eq_of_testBit_eq
  intro i
  rw [Nat.testBit_and, Nat.testBit_shiftLeft, Nat.testBit_shiftLeft, Nat.testBit_shiftRight, Nat.testBit_two_pow_sub_one]
  by_cases hi : h ≤ i
  · have : h + (i - h) = i := by omega
    rw [this]
    by_cases hi2 : i < N
    · have h5 : i - h < N - h := by omega
      simp [hi, h5]
    · have : x.testBit i = false := Nat.testBit_lt_two_pow (Nat.lt_of_lt_of_le hx (Nat.pow_le_pow_right (by omega) (by omega)))
      simp [this]
  · simp [hi]
theorem and64 (x : Int) (h : Nat) (hh : h ≤ 64) (h0 : 0 ≤ x) (h1 : x < 18446744073709551616) : bits .and .u64 x (18446744073709551615 * 2 ^ h % 18446744073709551616) = x - x % 2 ^ h := by
  obtain ⟨n, rfl⟩ := Int.eq_ofNat_of_zero_le h0
  have e : (18446744073709551615 * 2 ^ h % 18446744073709551616 : Int) = ((2 ^ 64 - 2 ^ h : Nat) : Int) := by
    have e0 : ((2 ^ 64 - 1 : Nat) : Int) = 18446744073709551615 := by decide
    have e1 : ((2 ^ 64 : Nat) : Int) = 18446744073709551616 := by decide
    rw [← maskN 64 h hh, Int.natCast_emod, Int.natCast_mul, e0, e1, Int.natCast_pow]
    rfl
  have hn : n < 2 ^ 64 := by omega
  have hp := Nat.two_pow_pos h
  rw [e, bits_and_u64_nat n (2 ^ 64 - 2 ^ h) (by omega) (by omega), andN 64 h n hh hn, Int.ofNat_sub (Nat.mod_le _ _)]
  push_cast
  rfl
theorem and32 (x : Int) (h : Nat) (hh : h ≤ 32) (h0 : 0 ≤ x) (h1 : x < 4294967296) : bits .and .u32 x (4294967295 * 2 ^ h % 4294967296) = x - x % 2 ^ h := by
  obtain ⟨n, rfl⟩ := Int.eq_ofNat_of_zero_le h0
  have e : (4294967295 * 2 ^ h % 4294967296 : Int) = ((2 ^ 32 - 2 ^ h : Nat) : Int) := by
    have e0 : ((2 ^ 32 - 1 : Nat) : Int) = 4294967295 := by decide
    have e1 : ((2 ^ 32 : Nat) : Int) = 4294967296 := by decide
    rw [← maskN 32 h hh, Int.natCast_emod, Int.natCast_mul, e0, e1, Int.natCast_pow]
    rfl
  have hn : n < 2 ^ 32 := by omega
  have hp := Nat.two_pow_pos h
  rw [e, bits_and_u32_nat' n (2 ^ 32 - 2 ^ h) (by omega) (by omega), andN 32 h n hh hn, Int.ofNat_sub (Nat.mod_le _ _)]
  push_cast
  rfl
theorem or64 (x y : Int) (k : Nat) (hx : 0 ≤ x) (hm : x % 2 ^ k = 0) (hy : 0 ≤ y) (hy2 : y < 2 ^ k) (hs : x + y < 18446744073709551616) : bits .or .u64 x y = x + y := by
  obtain ⟨m, rfl⟩ := Int.eq_ofNat_of_zero_le hx
  obtain ⟨n, rfl⟩ := Int.eq_ofNat_of_zero_le hy
  have h1 : m % 2 ^ k = 0 := by
    have : ((m % 2 ^ k : Nat) : Int) = 0 := by push_cast; exact hm
    omega
  have h2 : n < 2 ^ k := by
    have : (n : Int) < ((2 ^ k : Nat) : Int) := by push_cast; exact hy2
    omega
  obtain ⟨q, rfl⟩ := Nat.dvd_of_mod_eq_zero h1
  rw [bits_or_u64_nat _ _ (by omega) (by omega), ← Nat.two_pow_add_eq_or_of_lt h2]
  push_cast
  rfl
theorem or32 (x y : Int) (k : Nat) (hx : 0 ≤ x) (hm : x % 2 ^ k = 0) (hy : 0 ≤ y) (hy2 : y < 2 ^ k) (hs : x + y < 4294967296) : bits .or .u32 x y = x + y := by
  obtain ⟨m, rfl⟩ := Int.eq_ofNat_of_zero_le hx
  obtain ⟨n, rfl⟩ := Int.eq_ofNat_of_zero_le hy
  have h1 : m % 2 ^ k = 0 := by
    have : ((m % 2 ^ k : Nat) : Int) = 0 := by push_cast; exact hm
    omega
  have h2 : n < 2 ^ k := by
    have : (n : Int) < ((2 ^ k : Nat) : Int) := by push_cast; exact hy2
    omega
  obtain ⟨q, rfl⟩ := Nat.dvd_of_mod_eq_zero h1
  rw [bits_or_u32_nat _ _ (by omega) (by omega), ← Nat.two_pow_add_eq_or_of_lt h2]
  push_cast
  rfl
theorem or32' (x y : Int) (k : Nat) (hx : 0 ≤ x) (hm : x % 2 ^ k = 0) (hy : 0 ≤ y) (hy2 : y < 2 ^ k) (hs : x + y < 4294967296) : bits .or .u32 y x = x + y := by
  obtain ⟨m, rfl⟩ := Int.eq_ofNat_of_zero_le hx
  obtain ⟨n, rfl⟩ := Int.eq_ofNat_of_zero_le hy
  have := or32 m n k hx hm hy hy2 hs
  rw [bits_or_u32_nat _ _ (by omega) (by omega)] at this ⊢
  rw [Nat.or_comm, this]
def be (b0 b1 b2 b3 : Int) : Int := b0 * 16777216 + b1 * 65536 + b2 * 256 + b3
theorem be64 (b0 b1 b2 b3 : Int) (h0 : 0 ≤ b0) (k0 : b0 < 256) (h1 : 0 ≤ b1) (k1 : b1 < 256) (h2 : 0 ≤ b2) (k2 : b2 < 256) (h3 : 0 ≤ b3) (k3 : b3 < 256) :
    bits .or .u64 (bits .or .u64 (bits .or .u64 (bits .or .u64 281470681743360 (b0 * 16777216)) (b1 * 65536)) (b2 * 256)) b3 = 281470681743360 + be b0 b1 b2 b3 := by
  rw [or64 _ (b0 * 16777216) 32 (by omega) (by decide) (by omega) (by omega) (by omega), or64 _ (b1 * 65536) 24 (by omega) (by omega) (by omega) (by omega) (by omega),
    or64 _ (b2 * 256) 16 (by omega) (by omega) (by omega) (by omega) (by omega), or64 _ b3 8 (by omega) (by omega) (by omega) (by omega) (by omega)]
  unfold be; omega
theorem be32 (b0 b1 b2 b3 : Int) (h0 : 0 ≤ b0) (k0 : b0 < 256) (h1 : 0 ≤ b1) (k1 : b1 < 256) (h2 : 0 ≤ b2) (k2 : b2 < 256) (h3 : 0 ≤ b3) (k3 : b3 < 256) :
    bits .or .u32 (bits .or .u32 (bits .or .u32 (b0 * 16777216) (b1 * 65536)) (b2 * 256)) b3 = be b0 b1 b2 b3 := by
  rw [or32 _ (b1 * 65536) 24 (by omega) (by omega) (by omega) (by omega) (by omega),
    or32 _ (b2 * 256) 16 (by omega) (by omega) (by omega) (by omega) (by omega), or32 _ b3 8 (by omega) (by omega) (by omega) (by omega) (by omega)]
  unfold be; omega
theorem be32' (b0 b1 b2 b3 : Int) (h0 : 0 ≤ b0) (k0 : b0 < 256) (h1 : 0 ≤ b1) (k1 : b1 < 256) (h2 : 0 ≤ b2) (k2 : b2 < 256) (h3 : 0 ≤ b3) (k3 : b3 < 256) :
    bits .or .u32 (bits .or .u32 (bits .or .u32 b3 (b2 * 256)) (b1 * 65536)) (b0 * 16777216) = be b0 b1 b2 b3 := by
  rw [or32' (b2 * 256) _ 8 (by omega) (by omega) (by omega) (by omega) (by omega),
    or32' (b1 * 65536) _ 16 (by omega) (by omega) (by omega) (by omega) (by omega), or32' (b0 * 16777216) _ 24 (by omega) (by omega) (by omega) (by omega) (by omega)]
  unfold be; omega
theorem be_bound (b0 b1 b2 b3 : Int) (h0 : 0 ≤ b0) (k0 : b0 < 256) (h1 : 0 ≤ b1) (k1 : b1 < 256) (h2 : 0 ≤ b2) (k2 : b2 < 256) (h3 : 0 ≤ b3) (k3 : b3 < 256) : 0 ≤ be b0 b1 b2 b3 ∧ be b0 b1 b2 b3 < 4294967296 := by
  unfold be; omega
def inpB (x p : Int) (h : Nat) : Bool := decide (x / 2 ^ h = p / 2 ^ h)
theorem pow_dvd32 (h : Nat) (hh : h ≤ 32) : (4294967296 : Int) % 2 ^ h = 0 := by
  have : (4294967296 : Int) = 2 ^ h * 2 ^ (32 - h) := by rw [← Int.pow_add, Nat.add_sub_cancel' hh]; rfl
  rw [this]; exact Int.mul_emod_right _ _
theorem ipos (h : Nat) : (0 : Int) < 2 ^ h := Int.pow_pos (by decide)
theorem ile (h : Nat) (hh : h ≤ 32) : (2 : Int) ^ h ≤ 4294967296 := by
  have : 2 ^ h ≤ 2 ^ 32 := Nat.pow_le_pow_right (by omega) hh
  have h2 : ((2 ^ h : Nat) : Int) ≤ ((2 ^ 32 : Nat) : Int) := by omega
  rw [Int.natCast_pow] at h2
  simpa using h2
theorem inp_law (x p : Int) (h : Nat) (hh : h ≤ 32) (hx0 : 0 ≤ x) (hx1 : x < 4294967296) (hp0 : 0 ≤ p) (hp1 : p < 4294967296) :
    (bits .and .u32 x (4294967295 * 2 ^ h % 4294967296) == bits .and .u32 p (4294967295 * 2 ^ h % 4294967296)) = inpB x p h := by
  rw [and32 x h hh hx0 hx1, and32 p h hh hp0 hp1]
  have e1 := Int.emod_add_mul_ediv x (2 ^ h)
  have e2 := Int.emod_add_mul_ediv p (2 ^ h)
  have hpos := ipos h
  have e : (x - x % 2 ^ h = p - p % 2 ^ h) ↔ (x / 2 ^ h = p / 2 ^ h) := by
    constructor
    · intro hq
      have : 2 ^ h * (x / 2 ^ h) = 2 ^ h * (p / 2 ^ h) := by omega
      exact Int.eq_of_mul_eq_mul_left (by omega) this
    · intro hq
      rw [hq] at e1
      omega
  rw [Bool.eq_iff_iff]
  simp [inpB, e]
theorem range_law (x p : Int) (h : Nat) : (decide (p - p % 2 ^ h ≤ x) && decide (x ≤ p - p % 2 ^ h + (2 ^ h - 1))) = inpB x p h := by
  have e1 := Int.emod_add_mul_ediv x (2 ^ h)
  have e2 := Int.emod_add_mul_ediv p (2 ^ h)
  have hpos := ipos h
  have a1 := Int.emod_nonneg x (show (2 : Int) ^ h ≠ 0 by omega)
  have a2 := Int.emod_lt_of_pos x hpos
  have e : (p - p % 2 ^ h ≤ x ∧ x ≤ p - p % 2 ^ h + (2 ^ h - 1)) ↔ (x / 2 ^ h = p / 2 ^ h) := by
    constructor
    · rintro ⟨q1, q2⟩
      have h3 : 2 ^ h * (p / 2 ^ h) ≤ x := by omega
      have h4 : x < 2 ^ h * (p / 2 ^ h) + 2 ^ h := by omega
      refine Int.le_antisymm ?_ ?_
      · have : x / 2 ^ h < p / 2 ^ h + 1 := Int.ediv_lt_of_lt_mul hpos (by rw [Int.add_mul, Int.mul_comm]; omega)
        omega
      · exact Int.le_ediv_of_mul_le hpos (by rw [Int.mul_comm]; exact h3)
    · intro hq
      rw [hq] at e1
      omega
  rw [Bool.eq_iff_iff]
  simp [inpB, ← e]
theorem lo_law (x : Int) (h : Nat) (hh : h ≤ 32) : 281470681743360 + x - (281470681743360 + x) % 2 ^ h = 281470681743360 + (x - x % 2 ^ h) := by
  have e : (281470681743360 + x) % 2 ^ h = x % 2 ^ h := by
    have : (281470681743360 : Int) = 65535 * 4294967296 := by decide
    rw [this, Int.add_emod, Int.mul_emod, pow_dvd32 h hh]
    simp
  rw [e]; omega
end Go.Proofs.Qxb6618999aDoor
