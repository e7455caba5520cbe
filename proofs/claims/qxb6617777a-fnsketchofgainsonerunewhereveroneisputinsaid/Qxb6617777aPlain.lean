import GoSem.Core.Utf8
namespace Go.Proofs.Qxb6617777a.Plain

/-! The runes of a list of bytes, as Go's range over a string gives them; their count and their bits. No Go text in sight. -/

def bt (l : List UInt8) (k : Nat) : Nat := (l.getD k 0).toNat
def ct (l : List UInt8) (k : Nat) : Bool := decide (k < l.length) && bt l k / 64 == 2
def dec (l : List UInt8) : Nat × Nat :=
  if bt l 0 < 0x80 then (bt l 0, 1)
  else if bt l 0 / 32 == 6 && ct l 1 then
    if (bt l 0 % 32) * 64 + bt l 1 % 64 ≥ 0x80 then ((bt l 0 % 32) * 64 + bt l 1 % 64, 2) else (Utf8.runeError, 1)
  else if bt l 0 / 16 == 14 && ct l 1 && ct l 2 then
    if (bt l 0 % 16) * 4096 + (bt l 1 % 64) * 64 + bt l 2 % 64 ≥ 0x800 && Utf8.valid ((bt l 0 % 16) * 4096 + (bt l 1 % 64) * 64 + bt l 2 % 64 : Nat) then ((bt l 0 % 16) * 4096 + (bt l 1 % 64) * 64 + bt l 2 % 64, 3) else (Utf8.runeError, 1)
  else if bt l 0 / 8 == 30 && ct l 1 && ct l 2 && ct l 3 then
    if (bt l 0 % 8) * 262144 + (bt l 1 % 64) * 4096 + (bt l 2 % 64) * 64 + bt l 3 % 64 ≥ 0x10000 && Utf8.valid ((bt l 0 % 8) * 262144 + (bt l 1 % 64) * 4096 + (bt l 2 % 64) * 64 + bt l 3 % 64 : Nat) then ((bt l 0 % 8) * 262144 + (bt l 1 % 64) * 4096 + (bt l 2 % 64) * 64 + bt l 3 % 64, 4) else (Utf8.runeError, 1)
  else (Utf8.runeError, 1)

theorem get_bt (s : ByteArray) (i k : Nat) : (s.get! (i + k)).toNat = bt (s.data.toList.drop i) k := by
  unfold bt
  rcases s with ⟨d⟩
  show (d[i + k]!).toNat = _
  simp [Array.getElem!_eq_getD, Array.getD_eq_getD_getElem?, List.getD_eq_getElem?_getD, List.getElem?_drop]
  rfl

theorem decode_dec (s : ByteArray) (i : Nat) (hi : i ≤ s.size) : Utf8.decode s i = dec (s.data.toList.drop i) := by
  have e : ∀ k, (i + k < s.size) ↔ (k < (s.data.toList.drop i).length) := by
    intro k
    simp [List.length_drop]
    have : s.data.size = s.size := rfl
    omega
  have hc : ∀ k, (decide (i + k < s.size) && bt (s.data.toList.drop i) k / 64 == 2) = ct (s.data.toList.drop i) k := by
    intro k
    unfold ct
    simp only [e]
  have h0 := get_bt s i 0
  have h1 := get_bt s i 1
  have h2 := get_bt s i 2
  have h3 := get_bt s i 3
  unfold Utf8.decode
  simp only [h0, h1, h2, h3, hc]
  rfl

/-- A list that does not open with a continuation byte. -/
def opens (b : List UInt8) : Prop := b = [] ∨ ¬ bt b 0 / 64 = 2

theorem dec_append (a b : List UInt8) (ha : a ≠ []) (hb : opens b) : dec (a ++ b) = dec a := by
  have h0 : bt (a ++ b) 0 = bt a 0 := by
    cases a with
    | nil => exact absurd rfl ha
    | cons x t => simp [bt]
  have hin : ∀ k, k < a.length → bt (a ++ b) k = bt a k := by
    intro k hk
    simp [bt, List.getD_eq_getElem?_getD, List.getElem?_append_left hk]
  have hl : (a ++ b).length = a.length + b.length := List.length_append
  have hc : ∀ k, 0 < k → k ≤ a.length → ct (a ++ b) k = ct a k := by
    intro k h0 hk
    unfold ct
    by_cases hlt : k < a.length
    · rw [hin k hlt]
      have hlt2 : k < (a ++ b).length := by omega
      rw [decide_eq_true hlt, decide_eq_true hlt2]
    · have hke : k = a.length := by omega
      rcases hb with rfl | hb
      · simp [hlt]
      · have e : bt (a ++ b) k = bt b 0 := by
          subst hke
          simp [bt, List.getD_eq_getElem?_getD, List.getElem?_append_right]
        rw [e]
        simp [hlt, hb]
  have hpos : 1 ≤ a.length := by cases a with
    | nil => exact absurd rfl ha
    | cons x t => simp
  have hcl : ∀ k, ct a k = true → k < a.length := by
    intro k h
    simp [ct] at h
    exact h.1
  have c1 := hc 1 (by omega) hpos
  unfold dec
  rw [h0, c1]
  by_cases g1 : ct a 1 = true
  · have l1 := hcl 1 g1
    have c2 := hc 2 (by omega) (by omega)
    rw [c2, hin 1 l1]
    by_cases g2 : ct a 2 = true
    · have l2 := hcl 2 g2
      have c3 := hc 3 (by omega) (by omega)
      rw [c3, hin 2 l2]
      by_cases g3 : ct a 3 = true
      · rw [hin 3 (hcl 3 g3)]
      · simp [g3]
    · simp [g2]
  · simp [g1]

/-- The first byte is ASCII and is the rune; or it is not, and the bytes behind it that the rune takes are continuation bytes. -/
theorem dec_shape (l : List UInt8) (hl : l ≠ []) :
    1 ≤ (dec l).2 ∧ (dec l).2 ≤ l.length ∧ (bt l 0 < 128 → dec l = (bt l 0, 1)) ∧ (∀ k, 0 < k → k < (dec l).2 → bt l k / 64 = 2) := by
  have hpos : 1 ≤ l.length := by cases l with
    | nil => exact absurd rfl hl
    | cons x t => simp
  have hcl : ∀ k, ct l k = true → k < l.length ∧ bt l k / 64 = 2 := by
    intro k h
    simpa [ct] using h
  unfold dec
  split
  · exact ⟨by simp, hpos, fun _ => rfl, fun k h1 h2 => by simp at h2; omega⟩
  · rename_i hb
    split
    · rename_i h
      simp only [Bool.and_eq_true] at h
      have c1 := hcl 1 h.2
      split
      · exact ⟨by simp, c1.1, fun h => absurd h hb, fun k h1 h2 => by
          simp at h2
          have : k = 1 := by omega
          subst this; exact c1.2⟩
      · exact ⟨by simp, hpos, fun h => absurd h hb, fun k h1 h2 => by simp at h2; omega⟩
    · split
      · rename_i h
        simp only [Bool.and_eq_true] at h
        have c1 := hcl 1 h.1.2
        have c2 := hcl 2 h.2
        split
        · exact ⟨by simp, c2.1, fun h => absurd h hb, fun k h1 h2 => by
            simp at h2
            have : k = 1 ∨ k = 2 := by omega
            rcases this with rfl | rfl
            · exact c1.2
            · exact c2.2⟩
        · exact ⟨by simp, hpos, fun h => absurd h hb, fun k h1 h2 => by simp at h2; omega⟩
      · split
        · rename_i h
          simp only [Bool.and_eq_true] at h
          have c1 := hcl 1 h.1.1.2
          have c2 := hcl 2 h.1.2
          have c3 := hcl 3 h.2
          split
          · exact ⟨by simp, c3.1, fun h => absurd h hb, fun k h1 h2 => by
              simp at h2
              have : k = 1 ∨ k = 2 ∨ k = 3 := by omega
              rcases this with rfl | rfl | rfl
              · exact c1.2
              · exact c2.2
              · exact c3.2⟩
          · exact ⟨by simp, hpos, fun h => absurd h hb, fun k h1 h2 => by simp at h2; omega⟩
        · exact ⟨by simp, hpos, fun h => absurd h hb, fun k h1 h2 => by simp at h2; omega⟩

def rsF : Nat → List UInt8 → List Nat
  | 0, _ => []
  | f + 1, l => if l = [] then [] else (dec l).1 :: rsF f (l.drop (dec l).2)

theorem rsF_fuel (f : Nat) : ∀ (g : Nat) (l : List UInt8), l.length ≤ f → l.length ≤ g → rsF f l = rsF g l := by
  induction f with
  | zero =>
    intro g l hf hg
    have : l = [] := List.length_eq_zero_iff.1 (by omega)
    subst this
    cases g <;> simp [rsF]
  | succ f ih =>
    intro g l hf hg
    by_cases hl : l = []
    · subst hl; cases g <;> simp [rsF]
    · have hs := dec_shape l hl
      have : 1 ≤ l.length := by omega
      obtain ⟨g', rfl⟩ : ∃ g', g = g' + 1 := ⟨g - 1, by omega⟩
      simp only [rsF, hl, if_false]
      rw [ih g' (l.drop (dec l).2) (by simp; omega) (by simp; omega)]

def rs (l : List UInt8) : List Nat := rsF l.length l
theorem rs_nil : rs [] = [] := rfl
theorem rs_step (l : List UInt8) (hl : l ≠ []) : rs l = (dec l).1 :: rs (l.drop (dec l).2) := by
  have hs := dec_shape l hl
  unfold rs
  obtain ⟨f, hf⟩ : ∃ f, l.length = f + 1 := ⟨l.length - 1, by omega⟩
  rw [hf]
  simp only [rsF, hl, if_false]
  rw [rsF_fuel f (l.drop (dec l).2).length _ (by simp; omega) (Nat.le_refl _)]

theorem rs_append (n : Nat) : ∀ (a b : List UInt8), a.length ≤ n → opens b → rs (a ++ b) = rs a ++ rs b := by
  induction n with
  | zero =>
    intro a b ha hb
    have : a = [] := List.length_eq_zero_iff.1 (by omega)
    subst this; simp [rs_nil]
  | succ n ih =>
    intro a b ha hb
    by_cases hl : a = []
    · subst hl; simp [rs_nil]
    · have hs := dec_shape a hl
      rw [rs_step (a ++ b) (by simp [hl]), rs_step a hl, dec_append a b hl hb, List.drop_append_of_le_length hs.2.1,
        ih (a.drop (dec a).2) b (by simp; omega) hb]
      rfl

theorem rs_length (n : Nat) : ∀ l : List UInt8, l.length ≤ n → (rs l).length ≤ l.length := by
  induction n with
  | zero =>
    intro l hl
    have : l = [] := List.length_eq_zero_iff.1 (by omega)
    subst this; simp [rs_nil]
  | succ n ih =>
    intro l hn
    by_cases hl : l = []
    · subst hl; simp [rs_nil]
    · have hs := dec_shape l hl
      rw [rs_step l hl]
      have := ih (l.drop (dec l).2) (by simp; omega)
      simp at this ⊢
      omega

/-! ### Bits -/
def bit (r : Nat) : Nat := 2 ^ (r % 64)
def bitsOf : List Nat → Nat
  | [] => 0
  | r :: rest => bit r ||| bitsOf rest
theorem bitsOf_append (a b : List Nat) : bitsOf (a ++ b) = bitsOf a ||| bitsOf b := by
  induction a with
  | nil => simp [bitsOf]
  | cons r t ih => simp [bitsOf, ih, Nat.or_assoc]
theorem bitsOf_snoc (a : List Nat) (r : Nat) : bitsOf (a ++ [r]) = bitsOf a ||| bit r := by
  rw [bitsOf_append]; simp [bitsOf]
theorem bit_lt (r : Nat) : bit r < 18446744073709551616 := by
  have : bit r < 2 ^ 64 := Nat.pow_lt_pow_right (by omega) (Nat.mod_lt _ (by omega))
  simpa using this
theorem bitsOf_lt (a : List Nat) : bitsOf a < 18446744073709551616 := by
  induction a with
  | nil => simp [bitsOf]
  | cons r t ih =>
    have h1 := bit_lt r
    have : bit r ||| bitsOf t < 2 ^ 64 := Nat.or_lt_two_pow (by simpa using h1) (by simpa using ih)
    simpa [bitsOf] using this

/-! ### Starts and ASCII bytes -/
def isC (c : UInt8) : Bool := decide (128 ≤ c.toNat) && decide (c.toNat < 192)
def startsOf : List UInt8 → Nat
  | [] => 0
  | c :: t => (if isC c then 0 else 1) + startsOf t
def asciiOf : List UInt8 → Nat
  | [] => 0
  | c :: t => (if c.toNat < 128 then bit c.toNat else 0) ||| asciiOf t
theorem startsOf_append (a b : List UInt8) : startsOf (a ++ b) = startsOf a + startsOf b := by
  induction a with
  | nil => simp [startsOf]
  | cons c t ih => simp [startsOf, ih]; omega
theorem asciiOf_append (a b : List UInt8) : asciiOf (a ++ b) = asciiOf a ||| asciiOf b := by
  induction a with
  | nil => simp [asciiOf]
  | cons c t ih => simp [asciiOf, ih, Nat.or_assoc]
theorem startsOf_le (a : List UInt8) : startsOf a ≤ a.length := by
  induction a with
  | nil => simp [startsOf]
  | cons c t ih => simp [startsOf]; split <;> omega
theorem asciiOf_lt (a : List UInt8) : asciiOf a < 18446744073709551616 := by
  induction a with
  | nil => simp [asciiOf]
  | cons c t ih =>
    have h1 : (if c.toNat < 128 then bit c.toNat else 0) < 2 ^ 64 := by
      split
      · simpa using bit_lt c.toNat
      · simp
    have : (if c.toNat < 128 then bit c.toNat else 0) ||| asciiOf t < 2 ^ 64 := Nat.or_lt_two_pow h1 (by simpa using ih)
    simpa [asciiOf] using this

theorem conts_none (t : List UInt8) (h : ∀ c ∈ t, c.toNat / 64 = 2) : startsOf t = 0 ∧ asciiOf t = 0 := by
  induction t with
  | nil => simp [startsOf, asciiOf]
  | cons c t ih =>
    have hc := h c (by simp)
    have := ih (fun x hx => h x (by simp [hx]))
    have h1 : isC c = true := by simp [isC]; omega
    have h2 : ¬ c.toNat < 128 := by omega
    simp [startsOf, asciiOf, this, h1, h2]

theorem mem_or (a b : Nat) (h : a ||| b = b) (x : Nat) : (x ||| a) ||| (x ||| b) = x ||| b := by
  apply Nat.eq_of_testBit_eq
  intro i
  have hi : (a ||| b).testBit i = b.testBit i := by rw [h]
  simp only [Nat.testBit_or] at hi ⊢
  revert hi
  cases x.testBit i <;> cases a.testBit i <;> cases b.testBit i <;> simp

/-- Between the starts and the length; the ASCII bits are among the bits. -/
theorem rs_bounds (n : Nat) : ∀ l : List UInt8, l.length ≤ n → startsOf l ≤ (rs l).length ∧ asciiOf l ||| bitsOf (rs l) = bitsOf (rs l) := by
  induction n with
  | zero =>
    intro l hl
    have : l = [] := List.length_eq_zero_iff.1 (by omega)
    subst this; simp [rs_nil, startsOf, asciiOf, bitsOf]
  | succ n ih =>
    intro l hn
    match l, hn with
    | [], _ => simp [rs_nil, startsOf, asciiOf, bitsOf]
    | c :: t, hn =>
      have hl : c :: t ≠ [] := by simp
      obtain ⟨s1, s2, s3, s4⟩ := dec_shape (c :: t) hl
      rw [rs_step (c :: t) hl]
      generalize hw : (dec (c :: t)).2 = w at *
      obtain ⟨w', rfl⟩ : ∃ w', w = w' + 1 := ⟨w - 1, by omega⟩
      have hd : (c :: t).drop (w' + 1) = t.drop w' := rfl
      rw [hd]
      simp at s2 hn
      have ihh := ih (t.drop w') (by simp; omega)
      have hsplit : t = t.take w' ++ t.drop w' := (List.take_append_drop w' t).symm
      have hct : ∀ x ∈ t.take w', x.toNat / 64 = 2 := by
        intro x hx
        obtain ⟨j, hj, rfl⟩ := List.getElem_of_mem hx
        simp at hj
        have := s4 (j + 1) (by omega) (by omega)
        simpa [bt, List.getD_eq_getElem?_getD, List.getElem?_eq_getElem (show j < t.length by omega)] using this
      have hno := conts_none _ hct
      have e1 : startsOf t = startsOf (t.drop w') := by
        have := startsOf_append (t.take w') (t.drop w')
        rw [List.take_append_drop] at this; omega
      have e2 : asciiOf t = asciiOf (t.drop w') := by
        have := asciiOf_append (t.take w') (t.drop w')
        rw [List.take_append_drop, hno.2] at this; simpa using this
      refine ⟨?_, ?_⟩
      · simp only [startsOf, List.length_cons, e1]
        split <;> omega
      · simp only [asciiOf, bitsOf, e2]
        by_cases hc : c.toNat < 128
        · have hb : bt (c :: t) 0 = c.toNat := by simp [bt]
          have := s3 (by rw [hb]; exact hc)
          rw [this, hb]
          simp only [hc, if_true]
          exact mem_or _ _ ihh.2 _
        · simp only [hc, if_false, Nat.zero_or]
          rw [← Nat.or_assoc, Nat.or_comm (asciiOf _), Nat.or_assoc, ihh.2]

/-- What the law says of the bits. -/
theorem and_of_or (a b : Nat) (h : a ||| b = b) : b &&& a = a := by
  apply Nat.eq_of_testBit_eq
  intro i
  have hi : (a ||| b).testBit i = b.testBit i := by rw [h]
  simp only [Nat.testBit_or, Nat.testBit_and] at hi ⊢
  revert hi
  cases a.testBit i <;> cases b.testBit i <;> simp
end Go.Proofs.Qxb6617777a.Plain
