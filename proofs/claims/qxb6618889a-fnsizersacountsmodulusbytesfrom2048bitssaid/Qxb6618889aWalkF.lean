import Derived.Test.Qxb6618889aWalkE
namespace Go.Proofs.Qxb6618889a
open Go.RowKit

theorem clone_any (a : Option Addr) (n c : Nat) (l : List UInt8) (w : World) (hb : IsBytes w a n c l) (hn : n ≤ 70000) :
    Calls Try.prog 5 #[.slice a n c] w fun e w' => ∃ a' c', e = .returned (.slice a' n c') ∧ IsBytes w' a' n c' l ∧ Below w.heap.size w w' := by
  rcases hb with ⟨rfl, rfl, hnil⟩ | ⟨g, o, rfl, h2, h3, h4, h5⟩
  · cases a with
    | none =>
      obtain rfl := hnil rfl
      refine (clone_nil w).mono ?_
      rintro e w' ⟨rfl, rfl⟩
      exact ⟨none, 0, rfl, .inl ⟨rfl, rfl, fun _ => rfl⟩, Below.refl _ _⟩
    | some x =>
      refine (clone_zero x c w).mono ?_
      rintro e w' ⟨rfl, hB⟩
      exact ⟨_, 0, rfl, .inl ⟨rfl, rfl, fun _ => rfl⟩, hB⟩
  · refine (clone_pos g o n c l h2 hn w h5).mono ?_
    rintro e w' ⟨rfl, hby, hB⟩
    exact ⟨_, n, rfl, .inr ⟨_, 0, rfl, h2, h3, Nat.le_refl _, hby⟩, hB⟩

theorem strip_zero (a : Option Addr) (c : Nat) (hnil : a = none → c = 0) (w : World) :
    Calls Try.prog 9 #[.slice a 0 c] w fun e w' => ∃ a' c', e = .returned (.slice a' 0 c') ∧ (a' = none → c' = 0) ∧ w' = w := by
  cases a with
  | none =>
    obtain rfl := hnil rfl
    go_enter Try.func9, Try.ntmps9
    go_wp2
    refine wp_loop_rounds 1 ?_
    rw [rounds_succ]
    go_wp2
    go_ret
    exact ⟨none, 0, rfl, fun _ => rfl, rfl⟩
  | some x =>
    go_enter Try.func9, Try.ntmps9
    go_wp2
    refine wp_loop_rounds 1 ?_
    rw [rounds_succ]
    go_wp2
    go_ret
    refine ⟨some x, c, ?_, fun h => by simp at h, rfl⟩
    simp

set_option maxHeartbeats 400000 in
theorem strip_pos (g o n c : Nat) (l : List UInt8) (hl : l.length = n) (h1 : 1 ≤ n) (h2 : n ≤ 70000) (hnc : n ≤ c) (w : World) (hb : BytesAt w g o l) :
    Calls Try.prog 9 #[.slice (some ⟨g, o, none⟩) n c] w fun e w' => ∃ a' n' c', e = .returned (.slice a' n' c') ∧ IsBytes w a' n' c' (Plain.strip l) ∧ w' = w := by
  have HL : Hid (l.length = n) := hl
  have HB : Bx (BytesAt w g o l) := ⟨hb⟩
  clear hl hb
  go_enter Try.func9, Try.ntmps9
  go_wp2
  go_loop [3] (fun t => ∃ i : Nat, i ≤ n ∧ t = .int .i64 i ∧ Bx (∀ j, j < i → l.getD j 0 = 0)) (fun t => n - (intOf t).toNat)
  case atStart => exact ⟨0, Nat.zero_le _, rfl, ⟨fun j hj => by omega⟩⟩
  case round =>
    obtain ⟨i, hi, rfl, hz⟩ := hrel
    by_cases hlt : i < n
    · have hcell : w.cell? ⟨g, o + i, none⟩ = some (.int .u8 ((l.getD i 0).toNat : Int)) := HB.out i (by rw [HL.out]; exact hlt)
      have hlt' : (i : Int) < n := by omega
      by_cases h0 : l.getD i 0 = 0
      · have hz2 : Bx (∀ j, j < i + 1 → l.getD j 0 = 0) := ⟨fun j hj => by
          rcases Nat.lt_or_ge j i with h | h
          · exact hz.out j h
          · have : j = i := by omega
            subst this; exact h0⟩
        rw [h0] at hcell
        clear h0
        go_wp2
        go_round
        case rel => exact ⟨i + 1, by omega, by go_num, hz2⟩
        case measure => simp [intOf]; omega
      · have hne : (((l.getD i 0).toNat : Int) == 0) = false := by
          have : (l.getD i 0).toNat ≠ 0 := fun h => h0 (UInt8.toNat_inj.1 (by simpa using h))
          simp only [beq_eq_false_iff_ne]
          omega
        have hfin : Bx (IsBytes w (some ⟨g, o + i, none⟩) (n - i) (c - i) (Plain.strip l)) := by
          have hs : Plain.strip l = l.drop i := Plain.strip_drop l i (by have := HL.out; omega) (fun j h hj => by
            have := hz.out j hj
            rw [List.getD_eq_getElem?_getD, List.getElem?_eq_getElem h] at this
            exact this) (fun h => by
            rw [List.getD_eq_getElem?_getD, List.getElem?_eq_getElem h] at h0
            exact h0)
          refine ⟨.inr ⟨g, o + i, rfl, ?_, by omega, by omega, ?_⟩⟩
          · rw [hs, List.length_drop, HL.out]
          · have := HB.out.sub i (n - i)
            rw [List.take_of_length_le (by rw [List.length_drop, HL.out]; exact Nat.le_refl _)] at this
            rw [hs]
            exact this
        have hic : ¬ c = i := by omega
        generalize (l.getD i 0).toNat = b at *
        clear h0
        go_wp2
        go_ret
        exact ⟨some ⟨g, o + i, none⟩, n - i, c - i, rfl, hfin.out, rfl⟩
    · have he : i = n := by omega
      subst he
      have hs : Bx (Plain.strip l = []) := ⟨by
        rw [Plain.strip_drop l i (by have := HL.out; omega) (fun j h hj => by
            have := hz.out j hj
            rw [List.getD_eq_getElem?_getD, List.getElem?_eq_getElem h] at this
            exact this) (fun h => by have := HL.out; omega)]
        exact List.drop_eq_nil_of_le (by have := HL.out; omega)⟩
      go_wp2
      all_goals
        go_ret
        exact ⟨_, _, _, rfl, .inl ⟨rfl, hs.out, fun h => by simp at h⟩, rfl⟩

theorem strip_any (a : Option Addr) (n c : Nat) (l : List UInt8) (w : World) (hb : IsBytes w a n c l) (hn : n ≤ 70000) :
    Calls Try.prog 9 #[.slice a n c] w fun e w' => ∃ a' n' c', e = .returned (.slice a' n' c') ∧ IsBytes w a' n' c' (Plain.strip l) ∧ n' = (Plain.strip l).length ∧ w' = w := by
  rcases hb with ⟨rfl, rfl, hnil⟩ | ⟨g, o, rfl, h2, h3, h4, h5⟩
  · refine (strip_zero a c hnil w).mono ?_
    rintro e w' ⟨a', c', rfl, h, rfl⟩
    exact ⟨a', 0, c', rfl, .inl ⟨rfl, rfl, h⟩, rfl, rfl⟩
  · refine (strip_pos g o n c l h2 h3 hn h4 w h5).mono ?_
    rintro e w' ⟨a', n', c', rfl, h, rfl⟩
    refine ⟨a', n', c', rfl, h, ?_, rfl⟩
    rcases h with ⟨rfl, e, -⟩ | ⟨_, _, _, e, _⟩
    · rw [e]; rfl
    · exact e.symm

set_option maxRecDepth 100000 in
set_option maxHeartbeats 1000000 in
theorem RSASize_any (a : Option Addr) (n c : Nat) (l : List UInt8) (w : World) (hb : IsBytes w a n c l) (hn : n ≤ 70000) (_hln : l.length ≤ 70000) :
    Calls Try.prog 6 #[.slice a n c] w fun e w' => e = .returned (.int .i64 (Plain.rsaSize l)) ∧ w' = w := by
  have hsl := Plain.strip_length l
  have hm : Bx (Plain.rsaSize l = if 256 < (Plain.strip l).length ∨ ((Plain.strip l).length = 256 ∧ 128 ≤ ((Plain.strip l).headD 0).toNat) then (Plain.strip l).length else 0) := ⟨rfl⟩
  go_enter Try.func6, Try.ntmps6
  go_wp2_with fail
  refine (strip_any a n c l _ hb hn).mono ?_
  rintro e w' ⟨a', n', c', rfl, hs, hn', rfl⟩
  clear hb
  generalize Plain.strip l = m at *
  rcases hs with ⟨rfl, rfl, -⟩ | ⟨g, o, rfl, h2, h3, h4, h5⟩
  · have hR : Bx (Plain.rsaSize l = 0) := ⟨by have := hm.out; simpa using this⟩
    clear hm hn'
    go_wp2
    go_ret
    exact ⟨by rw [hR.out]; rfl, rfl⟩
  · have hc0 : w'.cell? ⟨g, o, none⟩ = some (.int .u8 ((m.headD 0).toNat : Int)) := by
      have := h5 0 (by omega)
      rw [Nat.add_zero] at this
      rw [this]
      cases m <;> rfl
    have hlt : (m.headD 0).toNat < 256 := UInt8.toNat_lt _
    generalize (m.headD 0).toNat = b at *
    clear h5
    subst hn'
    by_cases k1 : 256 < m.length
    · have hR : Bx (Plain.rsaSize l = m.length) := ⟨by have := hm.out; rw [if_pos (.inl k1)] at this; exact this⟩
      have k1' : (256 : Int) < m.length := by omega
      clear hm k1
      generalize m.length = n' at *
      go_wp2
      go_ret
      exact ⟨by rw [hR.out]; rfl, rfl⟩
    · by_cases k2 : m.length = 256
      · by_cases k3 : 128 ≤ b
        · have hR : Bx (Plain.rsaSize l = 256) := ⟨by have := hm.out; rw [if_pos (.inr ⟨k2, k3⟩), k2] at this; exact this⟩
          rw [k2]
          have k3' : (128 : Int) ≤ b := by omega
          clear hm k1 k2 k3
          go_wp2
          go_ret
          exact ⟨by rw [hR.out]; rfl, rfl⟩
        · have hR : Bx (Plain.rsaSize l = 0) := ⟨by have := hm.out; rw [if_neg (by omega)] at this; exact this⟩
          rw [k2]
          have k3' : (b : Int) < 128 := by omega
          clear hm k1 k2 k3
          go_wp2
          go_ret
          exact ⟨by rw [hR.out]; rfl, rfl⟩
      · have hR : Bx (Plain.rsaSize l = 0) := ⟨by have := hm.out; rw [if_neg (by omega)] at this; exact this⟩
        have k1' : ¬ (256 : Int) < m.length := by omega
        have k2' : ((m.length : Int) == 256) = false := by simp only [beq_eq_false_iff_ne]; omega
        clear hm k1 k2
        generalize m.length = n' at *
        go_wp2
        go_ret
        exact ⟨by rw [hR.out]; rfl, rfl⟩
end Go.Proofs.Qxb6618889a
