import Derived.Lib.ItoaNum
namespace Go.Proofs.Qxb6618889a.Plain

/-! The number that bytes spell, the greatest first; its bits; its 64-bit words. No Go text in sight. -/

def bv : List UInt8 → Nat
  | [] => 0
  | x :: t => x.toNat * 256 ^ t.length + bv t
theorem bv_lt (l : List UInt8) : bv l < 256 ^ l.length := by
  induction l with
  | nil => simp [bv]
  | cons x t ih =>
    have hx : x.toNat ≤ 255 := by have := x.toNat_lt; omega
    have : x.toNat * 256 ^ t.length ≤ 255 * 256 ^ t.length := Nat.mul_le_mul_right _ hx
    simp only [bv, List.length_cons, Nat.pow_succ]
    omega
theorem bv_append (a b : List UInt8) : bv (a ++ b) = bv a * 256 ^ b.length + bv b := by
  induction a with
  | nil => simp [bv]
  | cons x t ih =>
    simp only [List.cons_append, bv, ih, List.length_append, Nat.pow_add, Nat.add_mul, Nat.mul_assoc]
    omega
theorem pow256 (n : Nat) : 256 ^ n = 2 ^ (8 * n) := by
  rw [Nat.pow_mul]

def strip : List UInt8 → List UInt8
  | [] => []
  | x :: t => if x = 0 then strip t else x :: t
theorem bv_strip (l : List UInt8) : bv (strip l) = bv l := by
  induction l with
  | nil => rfl
  | cons x t ih =>
    unfold strip
    split
    · rename_i h; subst h; simp [bv, ih]
    · rfl
theorem strip_head (l : List UInt8) (x : UInt8) (t : List UInt8) (h : strip l = x :: t) : x ≠ 0 := by
  induction l with
  | nil => simp [strip] at h
  | cons y s ih =>
    unfold strip at h
    split at h
    · exact ih h
    · rename_i hy
      injection h with h1 h2
      subst h1; exact hy
theorem strip_length (l : List UInt8) : (strip l).length ≤ l.length := by
  induction l with
  | nil => simp [strip]
  | cons y s ih =>
    unfold strip
    split
    · simp; omega
    · exact Nat.le_refl _
theorem strip_snoc (l : List UInt8) (b : UInt8) (h : strip l ≠ []) : strip (l ++ [b]) = strip l ++ [b] := by
  induction l with
  | nil => simp [strip] at h
  | cons y s ih =>
    simp only [List.cons_append]
    unfold strip
    unfold strip at h
    split
    · rename_i hy
      rw [if_pos hy] at h
      exact ih h
    · rfl
/-- The place where the zeros end. -/
theorem strip_drop (l : List UInt8) (i : Nat) (hi : i ≤ l.length) (hz : ∀ j (h : j < l.length), j < i → l[j] = 0) (hn : ∀ h : i < l.length, l[i] ≠ 0) : strip l = l.drop i := by
  induction l generalizing i with
  | nil => simp [strip]
  | cons y s ih =>
    cases i with
    | zero =>
      have h0 : ¬ y = 0 := hn (by simp)
      unfold strip
      rw [if_neg h0]; rfl
    | succ i =>
      have hy := hz 0 (by simp) (by omega)
      simp at hy
      unfold strip
      rw [if_pos hy]
      simp only [List.drop_succ_cons]
      refine ih i (by simpa using hi) (fun j h hj => ?_) (fun h => ?_)
      · have := hz (j + 1) (by simp; omega) (by omega)
        simpa using this
      · have := hn (by simp; omega)
        simpa using this

def rsaSize (l : List UInt8) : Nat := if 256 < (strip l).length ∨ ((strip l).length = 256 ∧ 128 ≤ ((strip l).headD 0).toNat) then (strip l).length else 0

def IsBL (V bl : Nat) : Prop := V < 2 ^ bl ∧ (bl = 0 ∨ 2 ^ (bl - 1) ≤ V)
def gSize (bl : Nat) : Nat := if 2048 ≤ bl then (bl + 7) / 8 else 0

theorem lt_of_pow {a b : Nat} (h : 2 ^ a < 2 ^ b) : a < b := (Nat.pow_lt_pow_iff_right (by omega)).1 h

theorem gSize_rsaSize (l : List UInt8) (bl : Nat) (h : IsBL (bv l) bl) : gSize bl = rsaSize l := by
  rw [← bv_strip l] at h
  unfold rsaSize
  match hm : strip l with
  | [] =>
    rw [hm] at h
    have : bl = 0 := by
      rcases h.2 with h | h
      · exact h
      · have := Nat.two_pow_pos (bl - 1)
        simp [bv] at h
    subst this
    simp [gSize]
  | x :: t =>
    rw [hm] at h
    have hx0 := strip_head l x t hm
    have hx1 : 1 ≤ x.toNat := by
      rcases Nat.eq_zero_or_pos x.toNat with h0 | h0
      · exact absurd (UInt8.toNat_inj.1 (by simpa using h0)) hx0
      · exact h0
    have hx2 : x.toNat < 256 := x.toNat_lt
    have ht := bv_lt t
    simp only [bv] at h
    rw [pow256] at h ht
    generalize hn : t.length = n at *
    generalize bv t = T at *
    have hlo : 2 ^ (8 * n) ≤ x.toNat * 2 ^ (8 * n) + T := by
      have := Nat.mul_le_mul_right (2 ^ (8 * n)) hx1
      omega
    have hhi : x.toNat * 2 ^ (8 * n) + T < 2 ^ (8 * n + 8) := by
      rw [Nat.pow_add]
      have := Nat.mul_le_mul_right (2 ^ (8 * n)) (show x.toNat ≤ 255 by omega)
      omega
    have h1 : 8 * n < bl := lt_of_pow (Nat.lt_of_le_of_lt hlo h.1)
    have h2 : bl ≤ 8 * n + 8 := by
      rcases h.2 with h | h
      · omega
      · have := lt_of_pow (Nat.lt_of_le_of_lt h hhi); omega
    have h2' : 2 ^ (bl - 1) ≤ x.toNat * 2 ^ (8 * n) + T := by
      rcases h.2 with h | h
      · omega
      · exact h
    have hbig : 128 ≤ x.toNat → 8 * n + 7 < bl := by
      intro hx
      refine lt_of_pow (Nat.lt_of_le_of_lt ?_ h.1)
      rw [Nat.pow_add]
      have := Nat.mul_le_mul_right (2 ^ (8 * n)) hx
      omega
    have hsmall : x.toNat < 128 → bl ≤ 8 * n + 7 := by
      intro hx
      have : x.toNat * 2 ^ (8 * n) + T < 2 ^ (8 * n + 7) := by
        rw [Nat.pow_add]
        have := Nat.mul_le_mul_right (2 ^ (8 * n)) (show x.toNat ≤ 127 by omega)
        omega
      have := lt_of_pow (Nat.lt_of_le_of_lt h2' this)
      omega
    unfold gSize
    simp only [List.length_cons, hn, List.headD_cons]
    by_cases hc : 256 < n + 1 ∨ (n + 1 = 256 ∧ 128 ≤ x.toNat)
    · rw [if_pos hc, if_pos (by
        rcases hc with hc | hc
        · omega
        · have := hbig hc.2; omega)]
      omega
    · rw [if_neg hc, if_neg]
      intro hge
      by_cases hx : 128 ≤ x.toNat
      · exact hc (by omega)
      · have := hsmall (by omega)
        exact hc (by omega)

/-- What the law says of both sizes. -/
theorem longer (l : List UInt8) (b : UInt8) : rsaSize l = 0 ∨ rsaSize (l ++ [b]) = rsaSize l + 1 := by
  by_cases h0 : rsaSize l = 0
  · exact .inl h0
  · right
    have hne : strip l ≠ [] := by
      intro h
      apply h0
      simp [rsaSize, h]
    have hge : 256 ≤ (strip l).length := by
      unfold rsaSize at h0
      split at h0
      · rename_i h; omega
      · exact absurd rfl h0
    have e1 : rsaSize l = (strip l).length := by
      unfold rsaSize at h0 ⊢
      split
      · rfl
      · rename_i h; rw [if_neg h] at h0; exact absurd rfl h0
    rw [e1]
    unfold rsaSize
    rw [strip_snoc l b hne, if_pos (by left; simp; omega)]
    simp

theorem rsaSize_le (l : List UInt8) : rsaSize l ≤ l.length := by
  have := strip_length l
  unfold rsaSize
  split <;> omega

/-! ### Words -/
def wd (V k : Nat) : Nat := V / 2 ^ (64 * k) % 2 ^ 64
theorem wd_lt (V k : Nat) : wd V k < 18446744073709551616 := by
  unfold wd
  have := Nat.mod_lt (V / 2 ^ (64 * k)) (show 0 < 2 ^ 64 by decide)
  simpa using this

theorem pow_8k (k : Nat) : 256 ^ (8 * k) = 2 ^ (64 * k) := by rw [pow256, ← Nat.mul_assoc]

/-- The k-th word from the end. -/
theorem wd_full (l : List UInt8) (k : Nat) (h : 8 * (k + 1) ≤ l.length) : wd (bv l) k = bv ((l.drop (l.length - 8 * (k + 1))).take 8) := by
  have e1 : l = l.take (l.length - 8 * (k + 1)) ++ ((l.drop (l.length - 8 * (k + 1))).take 8 ++ l.drop (l.length - 8 * k)) := by
    have e2 : l.drop (l.length - 8 * k) = (l.drop (l.length - 8 * (k + 1))).drop 8 := by
      rw [List.drop_drop]
      congr 1
      omega
    rw [e2, List.take_append_drop, List.take_append_drop]
  have hB : ((l.drop (l.length - 8 * (k + 1))).take 8).length = 8 := by simp; omega
  have hC : (l.drop (l.length - 8 * k)).length = 8 * k := by simp; omega
  have hCl := bv_lt (l.drop (l.length - 8 * k))
  have hBl := bv_lt ((l.drop (l.length - 8 * (k + 1))).take 8)
  have e3 : bv l = bv (l.take (l.length - 8 * (k + 1)) ++ ((l.drop (l.length - 8 * (k + 1))).take 8 ++ l.drop (l.length - 8 * k))) := congrArg bv e1
  rw [bv_append, bv_append, List.length_append, hB, hC, Nat.pow_add, pow_8k] at e3
  rw [hC, pow_8k] at hCl
  rw [hB] at hBl
  generalize bv (l.take (l.length - 8 * (k + 1))) = A at *
  generalize bv ((l.drop (l.length - 8 * (k + 1))).take 8) = B at *
  generalize bv (l.drop (l.length - 8 * k)) = C at *
  unfold wd
  rw [e3]
  have e4 : A * (256 ^ 8 * 2 ^ (64 * k)) + (B * 2 ^ (64 * k) + C) = C + 2 ^ (64 * k) * (A * 256 ^ 8 + B) := by
    generalize 2 ^ (64 * k) = M
    rw [Nat.mul_add, ← Nat.mul_assoc, Nat.mul_comm (A * 256 ^ 8) M, Nat.mul_comm B M]
    omega
  rw [e4, Nat.add_mul_div_left _ _ (Nat.two_pow_pos _), Nat.div_eq_of_lt hCl]
  have : (256 : Nat) ^ 8 = 2 ^ 64 := by decide
  rw [this] at hBl ⊢
  rw [Nat.zero_add, Nat.mul_comm, Nat.mul_add_mod]
  exact Nat.mod_eq_of_lt hBl

/-- The bytes that are left when no whole word is. -/
theorem wd_part (l : List UInt8) (k : Nat) (h : 8 * k ≤ l.length) (h2 : l.length < 8 * k + 8) : wd (bv l) k = bv (l.take (l.length - 8 * k)) := by
  have e1 := (List.take_append_drop (l.length - 8 * k) l).symm
  have hA : (l.take (l.length - 8 * k)).length = l.length - 8 * k := by simp
  have hC : (l.drop (l.length - 8 * k)).length = 8 * k := by simp; omega
  have hCl := bv_lt (l.drop (l.length - 8 * k))
  have hAl := bv_lt (l.take (l.length - 8 * k))
  have e3 : bv l = bv (l.take (l.length - 8 * k) ++ l.drop (l.length - 8 * k)) := congrArg bv e1
  rw [bv_append, hC, pow_8k] at e3
  rw [hC, pow_8k] at hCl
  rw [hA] at hAl
  have hAl2 : bv (l.take (l.length - 8 * k)) < 2 ^ 64 := by
    have : (256 : Nat) ^ (l.length - 8 * k) ≤ 256 ^ 8 := Nat.pow_le_pow_right (by omega) (by omega)
    have e : (256 : Nat) ^ 8 = 2 ^ 64 := by decide
    omega
  generalize bv (l.take (l.length - 8 * k)) = A at *
  generalize bv (l.drop (l.length - 8 * k)) = C at *
  unfold wd
  rw [e3, Nat.add_comm, Nat.mul_comm, Nat.add_mul_div_left _ _ (Nat.two_pow_pos _), Nat.div_eq_of_lt hCl, Nat.zero_add]
  exact Nat.mod_eq_of_lt hAl2

theorem bv_lt_words (l : List UInt8) (n : Nat) (h : l.length ≤ 8 * n) : bv l < 2 ^ (64 * n) := by
  have := bv_lt l
  rw [pow256] at this
  exact Nat.lt_of_lt_of_le this (Nat.pow_le_pow_right (by omega) (by omega))

/-- One word fewer where the greatest is nothing. -/
theorem wd_zero (V i : Nat) (h : V < 2 ^ (64 * (i + 1))) (hz : wd V i = 0) : V < 2 ^ (64 * i) := by
  unfold wd at hz
  have e : 2 ^ (64 * (i + 1)) = 2 ^ (64 * i) * 2 ^ 64 := by rw [← Nat.pow_add]; congr 1
  rw [e] at h
  have hd : V / 2 ^ (64 * i) < 2 ^ 64 := Nat.div_lt_of_lt_mul h
  rw [Nat.mod_eq_of_lt hd] at hz
  rcases Nat.div_eq_zero_iff.1 hz with h0 | h0
  · have := Nat.two_pow_pos (64 * i); omega
  · exact h0
theorem wd_nonzero (V i : Nat) (hz : wd V i ≠ 0) : 2 ^ (64 * i) ≤ V := by
  rcases Nat.lt_or_ge V (2 ^ (64 * i)) with h | h
  · exfalso; apply hz; unfold wd; rw [Nat.div_eq_of_lt h, Nat.zero_mod]
  · exact h
theorem wd_top (V i : Nat) (h : V < 2 ^ (64 * (i + 1))) : wd V i = V / 2 ^ (64 * i) := by
  unfold wd
  have e : 2 ^ (64 * (i + 1)) = 2 ^ (64 * i) * 2 ^ 64 := by rw [← Nat.pow_add]; congr 1
  rw [e] at h
  exact Nat.mod_eq_of_lt (Nat.div_lt_of_lt_mul h)

/-! ### The bits of the greatest word, smeared -/
def smear (x s : Nat) : Nat := x ||| x / 2 ^ s
theorem smear_ge (x s : Nat) : x ≤ smear x s := Nat.left_le_or
theorem smear_lt (x s K : Nat) (h : x < 2 ^ K) : smear x s < 2 ^ K := Nat.or_lt_two_pow h (Nat.lt_of_le_of_lt (Nat.div_le_self _ _) h)

theorem bitLen_bounds (x : Nat) (h : x < 2 ^ 64) (h0 : x ≠ 0) : 1 ≤ Lib.bitLen x ∧ 2 ^ (Lib.bitLen x - 1) ≤ x ∧ x < 2 ^ Lib.bitLen x := Lib.bitLenAux_bounds 64 x h h0

theorem bitLen_between (x y : Nat) (hx : x < 2 ^ 64) (h0 : x ≠ 0) (hy : y < 2 ^ 64) (h1 : x ≤ y) (h2 : ∀ K, x < 2 ^ K → y < 2 ^ K) : Lib.bitLen y = Lib.bitLen x := by
  have bx := bitLen_bounds x hx h0
  have by' := bitLen_bounds y hy (by omega)
  have a1 := lt_of_pow (Nat.lt_of_le_of_lt by'.2.1 (h2 _ bx.2.2))
  have a2 := lt_of_pow (Nat.lt_of_le_of_lt bx.2.1 (Nat.lt_of_le_of_lt h1 by'.2.2))
  omega

theorem isBL_words (V i y : Nat) (h1 : V < 2 ^ (64 * (i + 1))) (h2 : 2 ^ (64 * i) ≤ V) (hy : y < 2 ^ 64) (hxy : wd V i ≤ y) (hK : ∀ K, wd V i < 2 ^ K → y < 2 ^ K) : IsBL V (64 * i + Lib.bitLen y) := by
  have ht := wd_top V i h1
  have hx : wd V i < 2 ^ 64 := by have := wd_lt V i; simpa using this
  have h0 : wd V i ≠ 0 := by
    rw [ht]
    have := Nat.div_pos h2 (Nat.two_pow_pos (64 * i))
    omega
  rw [bitLen_between _ y hx h0 hy hxy hK]
  have b := bitLen_bounds _ hx h0
  generalize Lib.bitLen (wd V i) = L at *
  rw [ht] at b
  refine ⟨?_, .inr ?_⟩
  · rw [Nat.pow_add]
    exact (Nat.div_lt_iff_lt_mul (Nat.two_pow_pos _)).1 b.2.2 |> fun h => by rw [Nat.mul_comm]; exact h
  · have e : 64 * i + L - 1 = 64 * i + (L - 1) := by omega
    rw [e, Nat.pow_add]
    have := (Nat.le_div_iff_mul_le (Nat.two_pow_pos (64 * i))).1 b.2.1
    rw [Nat.mul_comm]; exact this
theorem isBL_zero : IsBL 0 0 := ⟨by simp, .inl rfl⟩
end Go.Proofs.Qxb6618889a.Plain
