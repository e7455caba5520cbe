import Derived.Test.Qxb6618968aWalkI
namespace Go.Proofs.Qxb6618968a
open Go.RowKit

set_option maxRecDepth 100000 in
set_option maxHeartbeats 1000000 in
theorem bytesA_any (a : Option Addr) (n c : Nat) (l : List ByteArray) (q : ByteArray) (w : World) (hb : IsStrs w a n c l) (hn : n ≤ maxLen) (hs : ∀ s ∈ l, s.size ≤ maxLen) (hq : q.size ≤ maxLen) :
    Calls Try.prog 6 #[.slice a n c, .string q] w fun e w' => (e = .returned (.bool false) ∨ (e = .returned (.bool true) ∧ n + lens l + q.size ≤ 1048576)) ∧ w' = w := by
  unfold maxLen at hn hq
  by_cases hbig : n ≤ 1048576
  · have hbI : (n : Int) ≤ 1048576 := by omega
    have HL := Bx.mk hb.len
    have HB := Bx.mk hb
    have HS := Bx.mk hs
    clear hb hs hbig
    go_enter Try.func6, Try.ntmps6
    go_wp2
    go_loop [5, 6] (fun t7 t8 => ∃ j z : Nat, j ≤ n ∧ t8 = .int .i64 j ∧ t7 = .int .i64 z ∧ Bx (z = n + lens (l.take j)) ∧ z ≤ 1048576) (fun _ t8 => n - (intOf t8).toNat)
    case atStart => exact ⟨0, n, Nat.zero_le _, rfl, rfl, ⟨by simp [lens_nil]⟩, by omega⟩
    case round =>
      obtain ⟨j, z, hj, rfl, rfl, hz, hz2⟩ := hrel
      have hz2I : (z : Int) ≤ 1048576 := by omega
      clear hz2
      by_cases hlt : j < n
      · have hltI : (j : Int) < n := by omega
        have hjl : j < l.length := by rw [HL.out]; exact hlt
        obtain ⟨g, o, rfl, hcell⟩ := HB.out.cellAt j hlt
        have hsz : (l.getD j ByteArray.empty).size ≤ 9223372036854775807 := HS.out _ (getD_mem l j hjl)
        have hst := Bx.mk (lens_take_succ l j hjl)
        generalize l.getD j ByteArray.empty = s at *
        by_cases h1 : (s.size : Int) ≤ 1048576
        · by_cases h2 : (z : Int) + s.size ≤ 1048576
          · go_wp2
            go_round
            case rel => exact ⟨j + 1, z + s.size, by omega, by go_num, by go_num, ⟨by have := hz.out; have := hst.out; omega⟩, by omega⟩
            case measure => simp [intOf]; omega
          · go_wp2
            go_ret
            exact ⟨.inl rfl, rfl⟩
        · go_wp2
          go_ret
          exact ⟨.inl rfl, rfl⟩
      · have hltI : ¬ (j : Int) < n := by omega
        have hall : Bx (z = n + lens l) := ⟨by
          have := hz.out
          rw [List.take_of_length_le (by rw [HL.out]; omega)] at this
          omega⟩
        by_cases h1 : (q.size : Int) ≤ 1048576
        · by_cases h2 : (z : Int) + q.size ≤ 1048576
          · go_wp2
            go_ret
            exact ⟨.inr ⟨rfl, by have := hall.out; omega⟩, rfl⟩
          · go_wp2
            go_ret
            exact ⟨.inl rfl, rfl⟩
        · go_wp2
          go_ret
          exact ⟨.inl rfl, rfl⟩
  · have hbI : (1048576 : Int) < n := by omega
    clear hbig
    go_enter Try.func6, Try.ntmps6
    go_wp2
    go_ret
    exact ⟨.inl rfl, rfl⟩

set_option maxRecDepth 100000 in
set_option maxHeartbeats 2000000 in
theorem bytesK_any (a : Option Addr) (n c : Nat) (l : List ByteArray) (a2 : Option Addr) (n2 c2 : Nat) (l2 : List ByteArray) (q : ByteArray) (w : World) (hb : IsStrs w a n c l) (hn : n ≤ maxLen) (hs : ∀ s ∈ l, s.size ≤ maxLen) (hb2 : IsStrs w a2 n2 c2 l2) (hn2 : n2 ≤ maxLen) (hs2 : ∀ s ∈ l2, s.size ≤ maxLen) (hq : q.size ≤ maxLen) :
    Calls Try.prog 15 #[.slice a n c, .slice a2 n2 c2, .string q] w fun e w' => (e = .returned (.bool false) ∨ (e = .returned (.bool true) ∧ n + lens l + (n2 + lens l2) + q.size ≤ 1048576)) ∧ w' = w := by
  unfold maxLen at hn hq hn2
  by_cases hbig : n ≤ 1048576
  · have hbI : (n : Int) ≤ 1048576 := by omega
    have HL := Bx.mk hb.len
    have HB := Bx.mk hb
    have HS := Bx.mk hs
    have HL2 := Bx.mk hb2.len
    have HB2 := Bx.mk hb2
    have HS2 := Bx.mk hs2
    clear hb hs hbig hb2 hs2
    go_enter Try.func15, Try.ntmps15
    go_wp2
    go_loop [7, 8] (fun t7 t8 => ∃ j z : Nat, j ≤ n ∧ t8 = .int .i64 j ∧ t7 = .int .i64 z ∧ Bx (z = n + lens (l.take j)) ∧ z ≤ 1048576) (fun _ t8 => n - (intOf t8).toNat)
    case atStart => exact ⟨0, n, Nat.zero_le _, rfl, rfl, ⟨by simp [lens_nil]⟩, by omega⟩
    case round =>
      obtain ⟨j, z, hj, rfl, rfl, hz, hz2⟩ := hrel
      have hz2I : (z : Int) ≤ 1048576 := by omega
      clear hz2
      by_cases hlt : j < n
      · have hltI : (j : Int) < n := by omega
        have hjl : j < l.length := by rw [HL.out]; exact hlt
        obtain ⟨g, o, rfl, hcell⟩ := HB.out.cellAt j hlt
        have hsz : (l.getD j ByteArray.empty).size ≤ 9223372036854775807 := HS.out _ (getD_mem l j hjl)
        have hst := Bx.mk (lens_take_succ l j hjl)
        generalize l.getD j ByteArray.empty = s at *
        by_cases h1 : (s.size : Int) ≤ 1048576
        · by_cases h2 : (z : Int) + s.size ≤ 1048576
          · go_wp2
            go_round
            case rel => exact ⟨j + 1, z + s.size, by omega, by go_num, by go_num, ⟨by have := hz.out; have := hst.out; omega⟩, by omega⟩
            case measure => simp [intOf]; omega
          · go_wp2
            go_ret
            exact ⟨.inl rfl, rfl⟩
        · go_wp2
          go_ret
          exact ⟨.inl rfl, rfl⟩
      · have hltI : ¬ (j : Int) < n := by omega
        have hall : Bx (z = n + lens l) := ⟨by
          have := hz.out
          rw [List.take_of_length_le (by rw [HL.out]; omega)] at this
          omega⟩
        clear hz
        by_cases k1 : (n2 : Int) ≤ 1048576
        · by_cases k2 : (z : Int) + n2 ≤ 1048576
          · go_wp2
            go_loop [7, 9] (fun t7 t8 => ∃ j y : Nat, j ≤ n2 ∧ t8 = .int .i64 j ∧ t7 = .int .i64 y ∧ Bx (y = z + n2 + lens (l2.take j)) ∧ y ≤ 1048576) (fun _ t8 => n2 - (intOf t8).toNat)
            case atStart => exact ⟨0, z + n2, Nat.zero_le _, rfl, by go_num, ⟨by simp [lens_nil]⟩, by omega⟩
            case round =>
              obtain ⟨i, y, hi, rfl, rfl, hy, hy2⟩ := hrel
              have hy2I : (y : Int) ≤ 1048576 := by omega
              clear hy2
              by_cases hlt2 : i < n2
              · have hltI2 : (i : Int) < n2 := by omega
                have hil : i < l2.length := by rw [HL2.out]; exact hlt2
                obtain ⟨g, o, rfl, hcell⟩ := HB2.out.cellAt i hlt2
                have hsz : (l2.getD i ByteArray.empty).size ≤ 9223372036854775807 := HS2.out _ (getD_mem l2 i hil)
                have hst := Bx.mk (lens_take_succ l2 i hil)
                generalize l2.getD i ByteArray.empty = s at *
                by_cases h1 : (s.size : Int) ≤ 1048576
                · by_cases h2 : (y : Int) + s.size ≤ 1048576
                  · go_wp2
                    go_round
                    case rel => exact ⟨i + 1, y + s.size, by omega, by go_num, by go_num, ⟨by have := hy.out; have := hst.out; omega⟩, by omega⟩
                    case measure => simp [intOf]; omega
                  · go_wp2
                    go_ret
                    exact ⟨.inl rfl, rfl⟩
                · go_wp2
                  go_ret
                  exact ⟨.inl rfl, rfl⟩
              · have hltI2 : ¬ (i : Int) < n2 := by omega
                have hall2 : Bx (y = z + n2 + lens l2) := ⟨by
                  have := hy.out
                  rw [List.take_of_length_le (by rw [HL2.out]; omega)] at this
                  omega⟩
                by_cases h1 : (q.size : Int) ≤ 1048576
                · by_cases h2 : (y : Int) + q.size ≤ 1048576
                  · go_wp2
                    go_ret
                    exact ⟨.inr ⟨rfl, by have := hall.out; have := hall2.out; omega⟩, rfl⟩
                  · go_wp2
                    go_ret
                    exact ⟨.inl rfl, rfl⟩
                · go_wp2
                  go_ret
                  exact ⟨.inl rfl, rfl⟩
          · go_wp2
            go_ret
            exact ⟨.inl rfl, rfl⟩
        · go_wp2
          go_ret
          exact ⟨.inl rfl, rfl⟩
  · have hbI : (1048576 : Int) < n := by omega
    clear hbig
    go_enter Try.func15, Try.ntmps15
    go_wp2
    go_ret
    exact ⟨.inl rfl, rfl⟩
end Go.Proofs.Qxb6618968a
