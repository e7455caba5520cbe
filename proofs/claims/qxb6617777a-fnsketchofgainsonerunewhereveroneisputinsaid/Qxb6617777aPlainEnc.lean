import Derived.Test.Qxb6617777aPlain
namespace Go.Proofs.Qxb6617777a.Plain

def b8 (n : Nat) : UInt8 := UInt8.ofNat n
def enc (c : Nat) : List UInt8 :=
  if c < 128 then [b8 c]
  else if c < 2048 then [b8 (192 + c / 64), b8 (128 + c % 64)]
  else if c < 65536 then [b8 (224 + c / 4096), b8 (128 + c / 64 % 64), b8 (128 + c % 64)]
  else [b8 (240 + c / 262144), b8 (128 + c / 4096 % 64), b8 (128 + c / 64 % 64), b8 (128 + c % 64)]

theorem b8_nat (n : Nat) (h : n < 256) : (b8 n).toNat = n := by simp [b8]; omega
theorem enc_length (c : Nat) : (enc c).length ≤ 4 := by
  unfold enc
  split
  · simp
  · split
    · simp
    · split <;> simp

/-- A Unicode scalar value. -/
def scalar (c : Nat) : Prop := c < 55296 ∨ (57344 ≤ c ∧ c ≤ 1114111)

theorem enc_opens (c : Nat) (hc : scalar c) (t : List UInt8) : opens (enc c ++ t) := by
  right
  unfold scalar at hc
  unfold enc
  split
  · simp [bt, b8_nat c (by omega)]; omega
  · split
    · simp [bt, b8_nat (192 + c / 64) (by omega)]; omega
    · split
      · simp [bt, b8_nat (224 + c / 4096) (by omega)]; omega
      · simp [bt, b8_nat (240 + c / 262144) (by omega)]; omega

theorem dec_enc (c : Nat) (hc : scalar c) : dec (enc c) = (c, (enc c).length) := by
  unfold scalar at hc
  unfold enc
  split
  · have e := b8_nat c (by omega)
    have h0 : bt [b8 c] 0 = c := by simp [bt, e]
    rename_i h
    simp [dec, h0, h]
  · split
    · have e0 := b8_nat (192 + c / 64) (by omega)
      have e1 := b8_nat (128 + c % 64) (by omega)
      generalize b8 (192 + c / 64) = x0 at *
      generalize b8 (128 + c % 64) = x1 at *
      have h0 : bt [x0, x1] 0 = 192 + c / 64 := by simp [bt, e0]
      have h1 : bt [x0, x1] 1 = 128 + c % 64 := by simp [bt, e1]
      have c1 : ct [x0, x1] 1 = true := by simp [ct, h1]; omega
      unfold dec
      rw [h0, h1, c1]
      rw [if_neg (by omega), if_pos (by simp; omega), if_pos (by omega)]
      simp
      omega
    · split
      · have e0 := b8_nat (224 + c / 4096) (by omega)
        have e1 := b8_nat (128 + c / 64 % 64) (by omega)
        have e2 := b8_nat (128 + c % 64) (by omega)
        generalize b8 (224 + c / 4096) = x0 at *
        generalize b8 (128 + c / 64 % 64) = x1 at *
        generalize b8 (128 + c % 64) = x2 at *
        have h0 : bt [x0, x1, x2] 0 = 224 + c / 4096 := by simp [bt, e0]
        have h1 : bt [x0, x1, x2] 1 = 128 + c / 64 % 64 := by simp [bt, e1]
        have h2 : bt [x0, x1, x2] 2 = 128 + c % 64 := by simp [bt, e2]
        have c1 : ct [x0, x1, x2] 1 = true := by simp [ct, h1]; omega
        have c2 : ct [x0, x1, x2] 2 = true := by simp [ct, h2]; omega
        have hsum : (224 + c / 4096) % 16 * 4096 + (128 + c / 64 % 64) % 64 * 64 + (128 + c % 64) % 64 = c := by omega
        unfold dec
        rw [h0, h1, h2, c1, c2, hsum]
        rw [if_neg (by omega), if_neg (by simp; omega), if_pos (by simp; omega), if_pos (by simp [Utf8.valid]; omega)]
        simp
      · have e0 := b8_nat (240 + c / 262144) (by omega)
        have e1 := b8_nat (128 + c / 4096 % 64) (by omega)
        have e2 := b8_nat (128 + c / 64 % 64) (by omega)
        have e3 := b8_nat (128 + c % 64) (by omega)
        generalize b8 (240 + c / 262144) = x0 at *
        generalize b8 (128 + c / 4096 % 64) = x1 at *
        generalize b8 (128 + c / 64 % 64) = x2 at *
        generalize b8 (128 + c % 64) = x3 at *
        have h0 : bt [x0, x1, x2, x3] 0 = 240 + c / 262144 := by simp [bt, e0]
        have h1 : bt [x0, x1, x2, x3] 1 = 128 + c / 4096 % 64 := by simp [bt, e1]
        have h2 : bt [x0, x1, x2, x3] 2 = 128 + c / 64 % 64 := by simp [bt, e2]
        have h3 : bt [x0, x1, x2, x3] 3 = 128 + c % 64 := by simp [bt, e3]
        have c1 : ct [x0, x1, x2, x3] 1 = true := by simp [ct, h1]; omega
        have c2 : ct [x0, x1, x2, x3] 2 = true := by simp [ct, h2]; omega
        have c3 : ct [x0, x1, x2, x3] 3 = true := by simp [ct, h3]; omega
        have hsum : (240 + c / 262144) % 8 * 262144 + (128 + c / 4096 % 64) % 64 * 4096 + (128 + c / 64 % 64) % 64 * 64 + (128 + c % 64) % 64 = c := by omega
        unfold dec
        rw [h0, h1, h2, h3, c1, c2, c3, hsum]
        rw [if_neg (by omega), if_neg (by simp; omega), if_neg (by simp; omega), if_pos (by simp; omega), if_pos (by simp [Utf8.valid]; omega)]
        simp

theorem enc_ne (c : Nat) : enc c ≠ [] := by
  unfold enc
  split
  · simp
  · split
    · simp
    · split <;> simp
theorem rs_enc (c : Nat) (hc : scalar c) : rs (enc c) = [c] := by
  rw [rs_step _ (enc_ne c), dec_enc c hc]
  simp [rs_nil]

/-- One rune put in between two parts: the runes of the one, that rune, the runes of the other. -/
theorem rs_put (a b : List UInt8) (c : Nat) (hc : scalar c) (hb : opens b) : rs (a ++ enc c ++ b) = rs a ++ [c] ++ rs b := by
  rw [List.append_assoc, rs_append _ a (enc c ++ b) (Nat.le_refl _) (enc_opens c hc b), rs_append _ (enc c) b (Nat.le_refl _) hb, rs_enc c hc]
  simp

def canon (r : Int) : Nat := if r < 0 ∨ 1114111 < r ∨ (55296 ≤ r ∧ r ≤ 57343) then 65533 else r.toNat
theorem canon_scalar (r : Int) : scalar (canon r) := by
  unfold scalar canon
  split <;> omega
theorem canon_lt (r : Int) : canon r ≤ 1114111 := by
  have := canon_scalar r
  unfold scalar at this
  omega
end Go.Proofs.Qxb6617777a.Plain
