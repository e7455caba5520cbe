import Derived.Test.Qxb6618968aWalkK
namespace Go.Proofs.Qxb6618968a
open Go.RowKit

set_option maxRecDepth 100000 in
set_option maxHeartbeats 4000000 in
theorem agrees_law (a : Option Addr) (n c : Nat) (l : List ByteArray) (q : ByteArray) (w : World) (hb : IsStrs w a n c l) (hn : n ≤ maxLen) (hs : ∀ s ∈ l, s.size ≤ maxLen) (hq : q.size ≤ maxLen) :
    Calls Try.prog 3 #[.slice a n c, .string q] w fun e w' => e = .returned (.bool true) ∧ Below w.heap.size w w' := by
  have HBY := Bx.mk (bytesA_any a n c l q w hb hn hs hq)
  have HL := Bx.mk hb.len
  have HB := Bx.mk hb
  unfold maxLen at hn hq
  clear hb hs
  go_enter Try.func3, Try.ntmps3
  go_wp2_with fail
  refine HBY.out.mono ?_
  rintro e w2 ⟨he, h2⟩
  subst w2
  clear HBY
  rcases he with rfl | ⟨rfl, hsum⟩
  · go_wp2
    go_ret
    exact ⟨rfl, Below.refl _ _⟩
  · have HS := Bx.mk hsum
    have hnb : (n : Int) ≤ 1048576 := by omega
    have hqb : (q.size : Int) ≤ 1048576 := by omega
    clear hsum hn hq
    by_cases h65 : (n : Int) ≤ 65536
    · go_wp2_with fail
      go_loop [5, 6] (fun t7 t8 => ∃ j z : Nat, j ≤ n ∧ t8 = .int .i64 j ∧ t7 = .int .i64 z ∧ Bx (z = 16 * n + q.size + lens (l.take j))) (fun _ t8 => n - (intOf t8).toNat)
      case atStart => exact ⟨0, 16 * n + q.size, Nat.zero_le _, rfl, by go_num, ⟨by simp [lens_nil]⟩⟩
      case round =>
        obtain ⟨j, z, hj, rfl, rfl, hz⟩ := hrel
        have hzb : (z : Int) ≤ 5000000 := by have := hz.out; have := lens_take_le l j; have := HS.out; omega
        by_cases hover : (z : Int) ≤ 1048576
        · by_cases hlt : j < n
          · have hltI : (j : Int) < n := by omega
            obtain ⟨g, o, rfl, hcell⟩ := HB.out.cellAt j hlt
            have hjl : j < l.length := by rw [HL.out]; exact hlt
            have hst := Bx.mk (lens_take_succ l j hjl)
            have hszI : ((l.getD j ByteArray.empty).size : Int) ≤ 1048576 := by
              have := hst.out; have := lens_take_le l (j + 1); have := HS.out; omega
            generalize l.getD j ByteArray.empty = s at *
            go_wp2
            go_round
            case rel => exact ⟨j + 1, z + s.size, by omega, by go_num, by go_num, ⟨by have := hz.out; have := hst.out; omega⟩⟩
            case measure => simp [intOf]; omega
          · have hltI : ¬ (j : Int) < n := by omega
            go_wp2_with fail
            refine (clone_any a n c l _ HB.out (by omega)).mono ?_
            rintro e w1 ⟨b1, rfl, hc1, hB⟩
            have HC1 := Bx.mk hc1
            clear hc1 HB
            go_wp2_with fail
            refine (clone_any b1 n n l _ HC1.out (by omega)).mono ?_
            rintro e w2 ⟨b2, rfl, hc2, hB2⟩
            have HC2 := Bx.mk hc2
            replace HC1 : Bx (IsStrs w2 b1 n n l) := ⟨HC1.out.below hB2⟩
            replace hB := hB.trans (hB2.mono hB.size)
            clear hc2 hB2
            have HN1 : Bx (n + lens l ≤ 1048576) := ⟨by have := HS.out; omega⟩
            go_wp2_with fail
            refine (zzText_any b2 n n l q _ HC2.out HN1.out).mono ?_
            rintro e w3 ⟨rfl, hB3⟩
            replace HC1 : Bx (IsStrs w3 b1 n n l) := ⟨HC1.out.below hB3⟩
            replace HC2 : Bx (IsStrs w3 b2 n n l) := ⟨HC2.out.below hB3⟩
            replace hB := hB.trans (hB3.mono hB.size)
            clear hB3
            have HK := Bx.mk (Chk.start w3)
            have hF : Below w3.heap.size w3 (w3.alloc (.cells #[.slice none 0 0] 29)) := (Below.refl _ _).alloc (Nat.le_refl _) _
            go_wp2_with fail
            refine (zzCheck_any w3.heap.size [] b2 n n l q _ HK.out (by simp) (HC2.out.below hF) HN1.out).mono ?_
            rintro e w4 ⟨rfl, hk4, hB4⟩
            have HK4 := Bx.mk hk4
            replace hF := hF.trans hB4
            clear hk4 hB4 HC2 HK
            go_wp2_with fail
            refine (member_any b1 n n l q _ (HC1.out.below hF) (by omega)).mono ?_
            rintro e w5 ⟨rfl, h5⟩
            subst w5
            cases e1 : mem l q with
            | true =>
              have HK : Bx (Chk w3.heap.size [] w4) := ⟨by have := HK4.out; rw [after_true e1] at this; exact this⟩
              have HE1 := Bx.mk e1
              clear HK4 e1
              obtain ⟨av, cv, hcv, -⟩ := HK.out.val
              simp only [List.length_nil] at hcv
              clear HK
              by_cases h0 : q.size = 0
              · have ho : okOf l q = false := by unfold okOf; rw [if_pos h0]
                have hne := (toList_nil q).2 h0
                clear h0
                go_wp2
                go_ret
                exact ⟨rfl, hB.trans (hF.mono hB.size)⟩
              · have ho : okOf l q = true := by unfold okOf; rw [if_neg h0]; exact HE1.out
                have hne : q.toList.isEmpty = false := by
                  rw [List.isEmpty_eq_false_iff]
                  exact fun h => h0 ((toList_nil q).1 h)
                have hne2 : ¬ q.toList = [] := fun h => h0 ((toList_nil q).1 h)
                clear h0
                go_wp2
                go_ret
                exact ⟨rfl, hB.trans (hF.mono hB.size)⟩
            | false =>
              have HK : Bx (Chk w3.heap.size [⟨(msgL l).toArray⟩] w4) := ⟨by have := HK4.out; rw [after_false e1] at this; exact this⟩
              have HE1 := Bx.mk e1
              clear HK4 e1
              obtain ⟨av0, cv0, hcv0, -⟩ := HK.out.val
              simp only [List.length_cons, List.length_nil, Nat.zero_add] at hcv0
              go_wp2_with fail
              refine (message_any b1 n n l _ (HC1.out.below hF) HN1.out).mono ?_
              rintro e w8 ⟨rfl, hB8⟩
              replace HK : Bx (Chk w3.heap.size [⟨(msgL l).toArray⟩] w8) := ⟨HK.out.below hB8⟩
              replace hF := hF.trans (hB8.mono hF.size)
              clear hB8 hcv0
              go_wp2_with fail
              refine (isAt_any w3.heap.size [⟨(msgL l).toArray⟩] 0 _ (by rfl) _ _ HK.out (by simp) (by simp) rfl).mono ?_
              rintro e w9 ⟨rfl, hB9⟩
              replace HK : Bx (Chk w3.heap.size [⟨(msgL l).toArray⟩] w9) := ⟨HK.out.below hB9⟩
              replace hF := hF.trans (hB9.mono hF.size)
              clear hB9
              obtain ⟨av, cv, hcv, -⟩ := HK.out.val
              simp only [List.length_cons, List.length_nil, Nat.zero_add] at hcv
              clear HK
              by_cases h0 : q.size = 0
              · have ho : okOf l q = false := by unfold okOf; rw [if_pos h0]
                have hne := (toList_nil q).2 h0
                clear h0
                go_wp2
                go_ret
                exact ⟨rfl, hB.trans (hF.mono hB.size)⟩
              · have ho : okOf l q = false := by unfold okOf; rw [if_neg h0]; exact HE1.out
                have hne : q.toList.isEmpty = false := by
                  rw [List.isEmpty_eq_false_iff]
                  exact fun h => h0 ((toList_nil q).1 h)
                have hne2 : ¬ q.toList = [] := fun h => h0 ((toList_nil q).1 h)
                clear h0
                go_wp2
                go_ret
                exact ⟨rfl, hB.trans (hF.mono hB.size)⟩
        · by_cases hlt : j < n
          · have hltI : (j : Int) < n := by omega
            go_wp2
            go_ret
            exact ⟨rfl, Below.refl _ _⟩
          · have hltI : ¬ (j : Int) < n := by omega
            go_wp2
            go_ret
            exact ⟨rfl, Below.refl _ _⟩
    · go_wp2
      go_ret
      exact ⟨rfl, Below.refl _ _⟩
end Go.Proofs.Qxb6618968a
