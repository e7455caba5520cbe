import Derived.Test.Qxb6617777aWalkA
namespace Go.Proofs.Qxb6617777a
open Go.RowKit

/-! The three ways on which the law answers at once. -/
set_option maxHeartbeats 400000 in
theorem splits_long (s : ByteArray) (i : Int) (hs : s.size ≤ maxLen) (h : ¬ s.size ≤ 1048576) (w : World) :
    Calls Try.prog 4 #[.string s, .int .i64 i] w fun e w' => e = .returned (.bool true) ∧ Below w.heap.size w w' := by
  have hb := decide_eq_false h
  go_enter Try.func4, Try.ntmps4
  go_wp2_with (go_at_call 10; refine (bytesB_any s hs i _).mono ?_; rintro e w' ⟨rfl, rfl⟩; rw [hb])
  go_ret
  exact ⟨rfl, Below.refl _ _⟩
set_option maxHeartbeats 400000 in
theorem splits_out (s : ByteArray) (i : Int) (hs : s.size ≤ maxLen) (h : s.size ≤ 1048576) (hi : i < 0 ∨ (s.size : Int) < i) (w : World) :
    Calls Try.prog 4 #[.string s, .int .i64 i] w fun e w' => e = .returned (.bool true) ∧ Below w.heap.size w w' := by
  have hb := decide_eq_true h
  rcases hi with hi | hi
  · go_enter Try.func4, Try.ntmps4
    go_wp2_with (go_at_call 10; refine (bytesB_any s hs i _).mono ?_; rintro e w' ⟨rfl, rfl⟩; rw [hb])
    go_ret
    exact ⟨rfl, Below.refl _ _⟩
  · have hi2 : ¬ i < 0 := by omega
    go_enter Try.func4, Try.ntmps4
    go_wp2_with (go_at_call 10; refine (bytesB_any s hs i _).mono ?_; rintro e w' ⟨rfl, rfl⟩; rw [hb])
    go_ret
    exact ⟨rfl, Below.refl _ _⟩
set_option maxHeartbeats 400000 in
theorem splits_cont (s : ByteArray) (i : Nat) (hs : s.size ≤ maxLen) (h : s.size ≤ 1048576) (hi : i < s.size) (hc : Plain.isC s[i] = true) (w : World) :
    Calls Try.prog 4 #[.string s, .int .i64 i] w fun e w' => e = .returned (.bool true) ∧ Below w.heap.size w w' := by
  have hb := decide_eq_true h
  go_enter Try.func4, Try.ntmps4
  go_wp2_with (first | (go_at_call 10; refine (bytesB_any s hs i _).mono ?_; rintro e w' ⟨rfl, rfl⟩; rw [hb]) | (go_at_call 6; refine (isCont_any _ _).mono ?_; rintro e w' ⟨rfl, rfl⟩; rw [hc]))
  go_ret
  exact ⟨rfl, Below.refl _ _⟩

theorem extract_list (s : ByteArray) (a b : Nat) : (s.extract a b).data.toList = (s.data.toList.drop a).take (b - a) := by
  rw [ByteArray.data_extract, Array.toList_extract, List.extract_eq_take_drop]

theorem zzSketch_hid (s : ByteArray) (hs : s.size ≤ 2000000) (w : World) :
    Calls Try.prog 9 #[.string s] w fun e w' => ∃ n b : Nat, e = .returned (.tuple #[.int .i64 n, .int .u64 b]) ∧ Hid (n = (Plain.rs s.data.toList).length) ∧ Hid (b = Plain.bitsOf (Plain.rs s.data.toList)) ∧ n ≤ 2000000 ∧ Below w.heap.size w w' := by
  refine (zzSketch_any s hs w).mono ?_
  rintro e w' ⟨rfl, hb⟩
  refine ⟨_, _, rfl, rfl, rfl, ?_, hb⟩
  have := Plain.rs_length _ s.data.toList (Nat.le_refl _)
  have h2 : s.data.toList.length = s.size := rfl
  omega

theorem take_snoc (s : ByteArray) (k : Nat) (h : k < s.size) : s.data.toList.take (k + 1) = s.data.toList.take k ++ [s[k]] := by
  rw [List.take_succ_eq_append_getElem (by simpa using h)]; rfl

theorem starts_snoc (s : ByteArray) (k : Nat) (h : k < s.size) : Plain.startsOf (s.data.toList.take (k + 1)) = Plain.startsOf (s.data.toList.take k) + (if Plain.isC s[k] then 0 else 1) := by
  rw [take_snoc s k h, Plain.startsOf_append]; simp [Plain.startsOf]
theorem ascii_snoc (s : ByteArray) (k : Nat) (h : k < s.size) : Plain.asciiOf (s.data.toList.take (k + 1)) = Plain.asciiOf (s.data.toList.take k) ||| (if s[k].toNat < 128 then Plain.bit s[k].toNat else 0) := by
  rw [take_snoc s k h, Plain.asciiOf_append]; simp [Plain.asciiOf]

theorem opens_of (s : ByteArray) (i : Nat) (hi : i ≤ s.size) (hc : ∀ h : i < s.size, Plain.isC s[i] = false) : Plain.opens (s.data.toList.drop i) := by
  by_cases h : i < s.size
  · right
    have hl : i < s.data.toList.length := h
    have e : Plain.bt (s.data.toList.drop i) 0 = s[i].toNat := by
      simp [Plain.bt, List.getD_eq_getElem?_getD]
      rw [Array.getElem?_eq_getElem (show i < s.data.size from h)]
      rfl
    rw [e]
    have := hc h
    simp [Plain.isC] at this
    omega
  · left
    have hl : s.data.toList.length = s.size := rfl
    exact List.drop_eq_nil_of_le (by omega)

theorem final (s : ByteArray) (i : Nat) (hi : i ≤ s.size) (hc : ∀ h : i < s.size, Plain.isC s[i] = false) (n b n1 b1 n2 b2 : Nat)
    (hn : n = (Plain.rs s.data.toList).length) (hb : b = Plain.bitsOf (Plain.rs s.data.toList))
    (hn1 : n1 = (Plain.rs (s.extract 0 i).data.toList).length) (hb1 : b1 = Plain.bitsOf (Plain.rs (s.extract 0 i).data.toList))
    (hn2 : n2 = (Plain.rs (s.extract i s.size).data.toList).length) (hb2 : b2 = Plain.bitsOf (Plain.rs (s.extract i s.size).data.toList)) :
    n = n1 + n2 ∧ bits .or .u64 (b1 : Int) (b2 : Int) = (b : Int) ∧ Plain.startsOf s.data.toList ≤ n ∧ n ≤ s.size ∧ bits .and .u64 (b : Int) (Plain.asciiOf s.data.toList : Int) = (Plain.asciiOf s.data.toList : Int) := by
  have hl : s.data.toList.length = s.size := rfl
  have e1 : (s.extract 0 i).data.toList = s.data.toList.take i := by rw [extract_list]; simp
  have e2 : (s.extract i s.size).data.toList = s.data.toList.drop i := by
    rw [extract_list]
    exact List.take_of_length_le (by rw [List.length_drop, hl]; exact Nat.le_refl _)
  rw [e1] at hn1 hb1
  rw [e2] at hn2 hb2
  have hsp := Plain.rs_append _ (s.data.toList.take i) (s.data.toList.drop i) (Nat.le_refl _) (opens_of s i hi hc)
  rw [List.take_append_drop] at hsp
  have hbd := Plain.rs_bounds _ s.data.toList (Nat.le_refl _)
  have hln := Plain.rs_length _ s.data.toList (Nat.le_refl _)
  refine ⟨?_, ?_, ?_, ?_, ?_⟩
  · rw [hn, hsp, List.length_append]; omega
  · rw [bits_or_u64_nat _ _ (by rw [hb1]; exact Plain.bitsOf_lt _) (by rw [hb2]; exact Plain.bitsOf_lt _), hb, hsp, Plain.bitsOf_append, hb1, hb2]
  · rw [hn]; exact hbd.1
  · rw [hn]; omega
  · rw [bits_and_u64_nat _ _ (by rw [hb]; exact Plain.bitsOf_lt _) (Plain.asciiOf_lt _), hb, Plain.and_of_or _ _ hbd.2]

theorem or_asc (s : ByteArray) (k : Nat) (h : k < s.size) (hc : s[k].toNat < 128) : bits .or .u64 (Plain.asciiOf (s.data.toList.take k) : Int) (IntKind.u64.wrap (2 ^ (s[k].toNat % 64))) = (Plain.asciiOf (s.data.toList.take (k + 1)) : Int) := by
  have h1 := Plain.bit_lt s[k].toNat
  have e : IntKind.u64.wrap (2 ^ (s[k].toNat % 64)) = (Plain.bit s[k].toNat : Nat) := by
    rw [IntKind.wrap_u64]
    have e2 : (2 : Int) ^ (s[k].toNat % 64) = ((Plain.bit s[k].toNat : Nat) : Int) := by simp [Plain.bit]
    rw [e2]
    omega
  rw [e, bits_or_u64_nat _ _ (Plain.asciiOf_lt _) h1, ascii_snoc s k h, if_pos hc]

/-! The main way. -/
set_option maxRecDepth 100000 in
set_option maxHeartbeats 1000000 in
theorem splits_main (s : ByteArray) (i : Nat) (hs : s.size ≤ maxLen) (h : s.size ≤ 1048576) (hi0 : i ≤ s.size) (hc0 : ∀ h : i < s.size, Plain.isC s[i] = false) (w : World) :
    Calls Try.prog 4 #[.string s, .int .i64 i] w fun e w' => e = .returned (.bool true) ∧ Below w.heap.size w w' := by
  have hb := decide_eq_true h
  have hz1 : (s.extract 0 i).size ≤ 2000000 := by simp; omega
  have hz2 : (s.extract i s.size).size ≤ 2000000 := by simp; omega
  by_cases hi : i < s.size
  · have hc := hc0 hi
    go_enter Try.func4, Try.ntmps4
    go_wp2_with (first | (go_at_call 10; refine (bytesB_any s hs i _).mono ?_; rintro e w' ⟨rfl, rfl⟩; rw [hb]) | (go_at_call 6; refine (isCont_any _ _).mono ?_; rintro e w' ⟨rfl, rfl⟩; rw [hc]))
    clear hc
    refine (zzSketch_hid s (by omega) _).mono ?_
    rintro e w1 ⟨n, b, rfl, hn, hbb, hnle, hB1⟩
    go_wp2_with fail
    refine (zzSketch_hid _ hz1 _).mono ?_
    rintro e w2 ⟨n1, b1, rfl, hn1, hbb1, hnle1, hB2⟩
    go_wp2_with fail
    refine (zzSketch_hid _ hz2 _).mono ?_
    rintro e w3 ⟨n2, b2, rfl, hn2, hbb2, hnle2, hB3⟩
    go_wp2_with fail
    go_loop [11, 12, 13] (fun st asc kk => ∃ k : Nat, k ≤ s.size ∧ kk = .int .i64 k ∧ st = .int .i64 (Plain.startsOf (s.data.toList.take k)) ∧ asc = .int .u64 (Plain.asciiOf (s.data.toList.take k))) (fun _ _ kk => s.size - (intOf kk).toNat)
    case atStart => exact ⟨0, Nat.zero_le _, rfl, rfl, rfl⟩
    case round =>
      obtain ⟨k, hk, rfl, rfl, rfl⟩ := hrel
      by_cases hlt : k < s.size
      · have hstn : Plain.startsOf (s.data.toList.take k) ≤ 2000000 := by
          have := Plain.startsOf_le (s.data.toList.take k)
          have h2 : (s.data.toList.take k).length ≤ k := List.length_take_le _ _
          omega
        have hs1 : Hid (Plain.startsOf (s.data.toList.take (k + 1)) = Plain.startsOf (s.data.toList.take k) + (if Plain.isC s[k] then 0 else 1)) := starts_snoc s k hlt
        have hs2 : Hid (Plain.asciiOf (s.data.toList.take (k + 1)) = Plain.asciiOf (s.data.toList.take k) ||| (if s[k].toNat < 128 then Plain.bit s[k].toNat else 0)) := ascii_snoc s k hlt
        by_cases hck : Plain.isC s[k] = true
        · have hge : ¬ (s[k].toNat : Int) < 128 := by simp [Plain.isC] at hck; omega
          go_wp2_with (go_at_call 6; refine (isCont_any _ _).mono ?_; rintro e w' ⟨rfl, rfl⟩; rw [hck])
          go_round
          case rel => exact ⟨k + 1, by omega, by go_num, by rw [hs1.out, if_pos hck]; rfl, by rw [hs2.out, if_neg (by omega)]; simp⟩
          case measure => simp [intOf]; omega
        · have hck' : Plain.isC s[k] = false := by simpa using hck
          by_cases hlo : s[k].toNat < 128
          · have hlo' : (s[k].toNat : Int) < 128 := by omega
            have HO : Hid (_ = _) := or_asc s k hlt hlo
            go_wp2_with (go_at_call 6; refine (isCont_any _ _).mono ?_; rintro e w' ⟨rfl, rfl⟩; rw [hck'])
            go_round
            case rel => exact ⟨k + 1, by omega, by go_num, by rw [hs1.out, if_neg hck]; go_num, by rw [HO.out]⟩
            case measure => simp [intOf]; omega
          · have hlo' : ¬ (s[k].toNat : Int) < 128 := by omega
            go_wp2_with (go_at_call 6; refine (isCont_any _ _).mono ?_; rintro e w' ⟨rfl, rfl⟩; rw [hck'])
            go_round
            case rel => exact ⟨k + 1, by omega, by go_num, by rw [hs1.out, if_neg hck]; go_num, by rw [hs2.out, if_neg (by omega)]; simp⟩
            case measure => simp [intOf]; omega
      · have hall : s.data.toList.take k = s.data.toList := List.take_of_length_le (by have : s.data.toList.length = s.size := rfl; omega)
        rw [hall]
        clear hall
        obtain ⟨q1, q2, q3, q4, q5⟩ := final s i hi0 hc0 n b n1 b1 n2 b2 hn.out hbb.out hn1.out hbb1.out hn2.out hbb2.out
        clear hn hbb hn1 hbb1 hn2 hbb2
        generalize Plain.startsOf s.data.toList = st at *
        generalize Plain.asciiOf s.data.toList = asc at *
        subst q1
        go_wp2
        go_ret
        exact ⟨rfl, hB1.trans ((hB2.mono hB1.size).trans (hB3.mono (Nat.le_trans hB1.size hB2.size)))⟩
  · go_enter Try.func4, Try.ntmps4
    go_wp2_with (first | (go_at_call 10; refine (bytesB_any s hs i _).mono ?_; rintro e w' ⟨rfl, rfl⟩; rw [hb]))
    refine (zzSketch_hid s (by omega) _).mono ?_
    rintro e w1 ⟨n, b, rfl, hn, hbb, hnle, hB1⟩
    go_wp2_with fail
    refine (zzSketch_hid _ hz1 _).mono ?_
    rintro e w2 ⟨n1, b1, rfl, hn1, hbb1, hnle1, hB2⟩
    go_wp2_with fail
    refine (zzSketch_hid _ hz2 _).mono ?_
    rintro e w3 ⟨n2, b2, rfl, hn2, hbb2, hnle2, hB3⟩
    go_wp2_with fail
    go_loop [11, 12, 13] (fun st asc kk => ∃ k : Nat, k ≤ s.size ∧ kk = .int .i64 k ∧ st = .int .i64 (Plain.startsOf (s.data.toList.take k)) ∧ asc = .int .u64 (Plain.asciiOf (s.data.toList.take k))) (fun _ _ kk => s.size - (intOf kk).toNat)
    case atStart => exact ⟨0, Nat.zero_le _, rfl, rfl, rfl⟩
    case round =>
      obtain ⟨k, hk, rfl, rfl, rfl⟩ := hrel
      by_cases hlt : k < s.size
      · have hstn : Plain.startsOf (s.data.toList.take k) ≤ 2000000 := by
          have := Plain.startsOf_le (s.data.toList.take k)
          have h2 : (s.data.toList.take k).length ≤ k := List.length_take_le _ _
          omega
        have hs1 : Hid (Plain.startsOf (s.data.toList.take (k + 1)) = Plain.startsOf (s.data.toList.take k) + (if Plain.isC s[k] then 0 else 1)) := starts_snoc s k hlt
        have hs2 : Hid (Plain.asciiOf (s.data.toList.take (k + 1)) = Plain.asciiOf (s.data.toList.take k) ||| (if s[k].toNat < 128 then Plain.bit s[k].toNat else 0)) := ascii_snoc s k hlt
        by_cases hck : Plain.isC s[k] = true
        · have hge : ¬ (s[k].toNat : Int) < 128 := by simp [Plain.isC] at hck; omega
          go_wp2_with (go_at_call 6; refine (isCont_any _ _).mono ?_; rintro e w' ⟨rfl, rfl⟩; rw [hck])
          go_round
          case rel => exact ⟨k + 1, by omega, by go_num, by rw [hs1.out, if_pos hck]; rfl, by rw [hs2.out, if_neg (by omega)]; simp⟩
          case measure => simp [intOf]; omega
        · have hck' : Plain.isC s[k] = false := by simpa using hck
          by_cases hlo : s[k].toNat < 128
          · have hlo' : (s[k].toNat : Int) < 128 := by omega
            have HO : Hid (_ = _) := or_asc s k hlt hlo
            go_wp2_with (go_at_call 6; refine (isCont_any _ _).mono ?_; rintro e w' ⟨rfl, rfl⟩; rw [hck'])
            go_round
            case rel => exact ⟨k + 1, by omega, by go_num, by rw [hs1.out, if_neg hck]; go_num, by rw [HO.out]⟩
            case measure => simp [intOf]; omega
          · have hlo' : ¬ (s[k].toNat : Int) < 128 := by omega
            go_wp2_with (go_at_call 6; refine (isCont_any _ _).mono ?_; rintro e w' ⟨rfl, rfl⟩; rw [hck'])
            go_round
            case rel => exact ⟨k + 1, by omega, by go_num, by rw [hs1.out, if_neg hck]; go_num, by rw [hs2.out, if_neg (by omega)]; simp⟩
            case measure => simp [intOf]; omega
      · have hall : s.data.toList.take k = s.data.toList := List.take_of_length_le (by have : s.data.toList.length = s.size := rfl; omega)
        rw [hall]
        clear hall
        obtain ⟨q1, q2, q3, q4, q5⟩ := final s i hi0 hc0 n b n1 b1 n2 b2 hn.out hbb.out hn1.out hbb1.out hn2.out hbb2.out
        clear hn hbb hn1 hbb1 hn2 hbb2
        generalize Plain.startsOf s.data.toList = st at *
        generalize Plain.asciiOf s.data.toList = asc at *
        subst q1
        go_wp2
        go_ret
        exact ⟨rfl, hB1.trans ((hB2.mono hB1.size).trans (hB3.mono (Nat.le_trans hB1.size hB2.size)))⟩
end Go.Proofs.Qxb6617777a
