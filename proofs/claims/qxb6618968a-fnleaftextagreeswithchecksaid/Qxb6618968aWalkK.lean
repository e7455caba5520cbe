import Derived.Test.Qxb6618968aWalkJ
namespace Go.Proofs.Qxb6618968a
open Go.RowKit

theorem Chk.start (w : World) : Chk w.heap.size [] (w.alloc (.cells #[.slice none 0 0] 29)) :=
  ⟨⟨none, 0, by simp, World.ownsRow_nil _ _ _ _⟩, by rw [frozen?_alloc_cells]; simp [World.frozen?]⟩

theorem after_true {l : List ByteArray} {s m : ByteArray} {ms : List ByteArray} (h : mem l s = true) : after l s m ms = ms := by unfold after; rw [h]; rfl
theorem after_false {l : List ByteArray} {s m : ByteArray} {ms : List ByteArray} (h : mem l s = false) : after l s m ms = ms ++ [m] := by unfold after; rw [h]; rfl

set_option maxRecDepth 100000 in
set_option maxHeartbeats 4000000 in
theorem order_law (a : Option Addr) (n c : Nat) (l : List ByteArray) (a2 : Option Addr) (n2 c2 : Nat) (l2 : List ByteArray) (q : ByteArray) (w : World) (hb : IsStrs w a n c l) (hn : n ≤ maxLen) (hs : ∀ s ∈ l, s.size ≤ maxLen) (hb2 : IsStrs w a2 n2 c2 l2) (hn2 : n2 ≤ maxLen) (hs2 : ∀ s ∈ l2, s.size ≤ maxLen) (hq : q.size ≤ maxLen) :
    Calls Try.prog 5 #[.slice a n c, .slice a2 n2 c2, .string q] w fun e w' => e = .returned (.bool true) ∧ Below w.heap.size w w' := by
  have HBY := Bx.mk (bytesK_any a n c l a2 n2 c2 l2 q w hb hn hs hb2 hn2 hs2 hq)
  have HL := Bx.mk hb.len
  have HB := Bx.mk hb
  have HL2 := Bx.mk hb2.len
  have HB2 := Bx.mk hb2
  unfold maxLen at hn hn2 hq
  clear hb hs hb2 hs2
  go_enter Try.func5, Try.ntmps5
  go_wp2_with fail
  refine HBY.out.mono ?_
  rintro e w2 ⟨he, h2⟩
  subst w2
  clear HBY
  rcases he with rfl | ⟨rfl, hsum⟩
  · go_wp2
    go_ret
    exact ⟨rfl, Below.refl _ _⟩
  · have HS := Bx.mk hsum
    have hnb : (n : Int) ≤ 1048576 := by omega
    have hnb2 : (n2 : Int) ≤ 1048576 := by omega
    have hqb : (q.size : Int) ≤ 1048576 := by omega
    clear hsum hn hn2 hq
    by_cases h65 : (n : Int) ≤ 65536
    · by_cases h652 : (n2 : Int) ≤ 65536
      · go_wp2_with fail
        go_loop [7, 8] (fun t7 t8 => ∃ j z : Nat, j ≤ n ∧ t8 = .int .i64 j ∧ t7 = .int .i64 z ∧ Bx (z = 16 * n + 16 * n2 + q.size + lens (l.take j))) (fun _ t8 => n - (intOf t8).toNat)
        case atStart => exact ⟨0, 16 * n + 16 * n2 + q.size, Nat.zero_le _, rfl, by go_num, ⟨by simp [lens_nil]⟩⟩
        case round =>
          obtain ⟨j, z, hj, rfl, rfl, hz⟩ := hrel
          have hzb : (z : Int) ≤ 5000000 := by have := hz.out; have := lens_take_le l j; have := HS.out; omega
          by_cases hover : (z : Int) ≤ 1048576
          · by_cases hlt : j < n
            · have hltI : (j : Int) < n := by omega
              obtain ⟨g, o, rfl, hcell⟩ := HB.out.cellAt j hlt
              have hjl : j < l.length := by rw [HL.out]; exact hlt
              have hst := Bx.mk (lens_take_succ l j hjl)
              have hszI : ((l.getD j ByteArray.empty).size : Int) ≤ 1048576 := by
                have := hst.out; have := lens_take_le l (j + 1); have := HS.out; omega
              generalize l.getD j ByteArray.empty = s at *
              go_wp2
              go_round
              case rel => exact ⟨j + 1, z + s.size, by omega, by go_num, by go_num, ⟨by have := hz.out; have := hst.out; omega⟩⟩
              case measure => simp [intOf]; omega
            · have hltI : ¬ (j : Int) < n := by omega
              go_wp2_with fail
              go_loop [7, 9] (fun t7 t8 => ∃ i y : Nat, i ≤ n2 ∧ t8 = .int .i64 i ∧ t7 = .int .i64 y ∧ Bx (y = z + lens (l2.take i))) (fun _ t8 => n2 - (intOf t8).toNat)
              case atStart => exact ⟨0, z, Nat.zero_le _, rfl, rfl, ⟨by simp [lens_nil]⟩⟩
              case round =>
                obtain ⟨i, y, hi, rfl, rfl, hy⟩ := hrel
                have hyb : (y : Int) ≤ 6000000 := by have := hy.out; have := lens_take_le l2 i; have := HS.out; omega
                by_cases hover2 : (y : Int) ≤ 1048576
                · by_cases hlt2 : i < n2
                  · have hltI2 : (i : Int) < n2 := by omega
                    obtain ⟨g, o, rfl, hcell⟩ := HB2.out.cellAt i hlt2
                    have hil : i < l2.length := by rw [HL2.out]; exact hlt2
                    have hst := Bx.mk (lens_take_succ l2 i hil)
                    have hszI : ((l2.getD i ByteArray.empty).size : Int) ≤ 1048576 := by
                      have := hst.out; have := lens_take_le l2 (i + 1); have := HS.out; omega
                    generalize l2.getD i ByteArray.empty = s at *
                    go_wp2
                    go_round
                    case rel => exact ⟨i + 1, y + s.size, by omega, by go_num, by go_num, ⟨by have := hy.out; have := hst.out; omega⟩⟩
                    case measure => simp [intOf]; omega
                  · have hltI2 : ¬ (i : Int) < n2 := by omega
                    -- the four clones
                    go_wp2_with fail
                    refine (clone_any a n c l _ HB.out (by omega)).mono ?_
                    rintro e w1 ⟨b1, rfl, hc1, hB1⟩
                    have HC1 := Bx.mk hc1
                    replace HB2 : Bx (IsStrs w1 a2 n2 c2 l2) := ⟨HB2.out.below hB1⟩
                    clear hc1 HB
                    go_wp2_with fail
                    refine (clone_any a2 n2 c2 l2 _ HB2.out (by omega)).mono ?_
                    rintro e w2 ⟨b2, rfl, hc2, hB2⟩
                    have HC2 := Bx.mk hc2
                    replace HC1 : Bx (IsStrs w2 b1 n n l) := ⟨HC1.out.below hB2⟩
                    have hB := hB1.trans (hB2.mono hB1.size)
                    clear hc2 HB2 hB1 hB2
                    go_wp2_with fail
                    refine (clone_any b1 n n l _ HC1.out (by omega)).mono ?_
                    rintro e w3 ⟨b3, rfl, hc3, hB3⟩
                    have HC3 := Bx.mk hc3
                    replace HC1 : Bx (IsStrs w3 b1 n n l) := ⟨HC1.out.below hB3⟩
                    replace HC2 : Bx (IsStrs w3 b2 n2 n2 l2) := ⟨HC2.out.below hB3⟩
                    replace hB := hB.trans (hB3.mono hB.size)
                    clear hc3 hB3
                    go_wp2_with fail
                    refine (clone_any b2 n2 n2 l2 _ HC2.out (by omega)).mono ?_
                    rintro e w4 ⟨b4, rfl, hc4, hB4⟩
                    have HC4 := Bx.mk hc4
                    replace HC1 : Bx (IsStrs w4 b1 n n l) := ⟨HC1.out.below hB4⟩
                    replace HC2 : Bx (IsStrs w4 b2 n2 n2 l2) := ⟨HC2.out.below hB4⟩
                    replace HC3 : Bx (IsStrs w4 b3 n n l) := ⟨HC3.out.below hB4⟩
                    replace hB := hB.trans (hB4.mono hB.size)
                    clear hc4 hB4
                    have HN1 : Bx (n + lens l ≤ 1048576) := ⟨by have := HS.out; omega⟩
                    have HN2 : Bx (n2 + lens l2 ≤ 1048576) := ⟨by have := HS.out; omega⟩
                    have HK := Bx.mk (Chk.start w4)
                    have hF : Below w4.heap.size w4 (w4.alloc (.cells #[.slice none 0 0] 29)) := (Below.refl _ _).alloc (Nat.le_refl _) _
                    -- the two checks
                    go_wp2_with fail
                    refine (zzFuncCheck_any w4.heap.size [] b3 n n l q _ HK.out (by simp) (HC3.out.below hF) HN1.out).mono ?_
                    rintro e w5 ⟨rfl, hk5, hB5⟩
                    have HK5 := Bx.mk hk5
                    replace hF := hF.trans hB5
                    clear hk5 hB5 HC3 HK
                    go_wp2_with fail
                    refine (zzFuncCheck_any w4.heap.size _ b4 n2 n2 l2 q _ HK5.out (by unfold after; split <;> simp) (HC4.out.below hF) HN2.out).mono ?_
                    rintro e w6 ⟨rfl, hk6, hB6⟩
                    have HK6 := Bx.mk hk6
                    replace hF := hF.trans hB6
                    clear hk6 hB6 HC4 HK5
                    -- member(a, s)
                    go_wp2_with fail
                    refine (member_any b1 n n l q _ (HC1.out.below hF) (by omega)).mono ?_
                    rintro e w7 ⟨rfl, h7⟩
                    subst w7
                    cases e1 : mem l q with
                    | true =>
                      cases e2 : mem l2 q with
                      | true =>
                        have HK : Bx (Chk w4.heap.size [] w6) := ⟨by have := HK6.out; rw [after_true e1, after_true e2] at this; exact this⟩
                        clear HK6 e1
                        go_wp2_with fail
                        refine (member_any b2 n2 n2 l2 q _ (HC2.out.below hF) (by omega)).mono ?_
                        rintro e w20 ⟨rfl, h20⟩
                        subst w20
                        rw [e2]
                        clear e2
                        obtain ⟨av, cv, hcv, -⟩ := HK.out.val
                        simp only [List.length_nil] at hcv
                        clear HK
                        go_wp2
                        go_ret
                        exact ⟨rfl, hB.trans (hF.mono hB.size)⟩
                      | false =>
                        have HK : Bx (Chk w4.heap.size [⟨(msgL l2).toArray⟩] w6) := ⟨by have := HK6.out; rw [after_true e1, after_false e2] at this; exact this⟩
                        clear HK6 e1
                        go_wp2_with fail
                        refine (member_any b2 n2 n2 l2 q _ (HC2.out.below hF) (by omega)).mono ?_
                        rintro e w20 ⟨rfl, h20⟩
                        subst w20
                        rw [e2]
                        clear e2
                        go_wp2_with fail
                        refine (message_any b2 n2 n2 l2 _ (HC2.out.below hF) HN2.out).mono ?_
                        rintro e w8 ⟨rfl, hBm7⟩
                        replace HK : Bx (Chk w4.heap.size [⟨(msgL l2).toArray⟩] w8) := ⟨HK.out.below hBm7⟩
                        replace hF := hF.trans (hBm7.mono hF.size)
                        clear hBm7
                        go_wp2_with fail
                        refine (isAt_any w4.heap.size [⟨(msgL l2).toArray⟩] 0 _ (by rfl) _ _ HK.out (by simp) (by simp) rfl).mono ?_
                        rintro e w9 ⟨rfl, hBi7⟩
                        replace HK : Bx (Chk w4.heap.size [⟨(msgL l2).toArray⟩] w9) := ⟨HK.out.below hBi7⟩
                        replace hF := hF.trans (hBi7.mono hF.size)
                        clear hBi7
                        obtain ⟨av, cv, hcv, -⟩ := HK.out.val
                        simp only [List.length_cons, List.length_nil, Nat.zero_add] at hcv
                        clear HK
                        go_wp2
                        go_ret
                        exact ⟨rfl, hB.trans (hF.mono hB.size)⟩
                    | false =>
                      cases e2 : mem l2 q with
                      | true =>
                        have HK : Bx (Chk w4.heap.size [⟨(msgL l).toArray⟩] w6) := ⟨by have := HK6.out; rw [after_false e1, after_true e2] at this; exact this⟩
                        clear HK6 e1
                        go_wp2_with fail
                        refine (message_any b1 n n l _ (HC1.out.below hF) HN1.out).mono ?_
                        rintro e w8 ⟨rfl, hBm7⟩
                        replace HK : Bx (Chk w4.heap.size [⟨(msgL l).toArray⟩] w8) := ⟨HK.out.below hBm7⟩
                        replace hF := hF.trans (hBm7.mono hF.size)
                        clear hBm7
                        go_wp2_with fail
                        refine (isAt_any w4.heap.size [⟨(msgL l).toArray⟩] 0 _ (by rfl) _ _ HK.out (by simp) (by simp) rfl).mono ?_
                        rintro e w9 ⟨rfl, hBi7⟩
                        replace HK : Bx (Chk w4.heap.size [⟨(msgL l).toArray⟩] w9) := ⟨HK.out.below hBi7⟩
                        replace hF := hF.trans (hBi7.mono hF.size)
                        clear hBi7
                        go_wp2_with fail
                        refine (member_any b2 n2 n2 l2 q _ (HC2.out.below hF) (by omega)).mono ?_
                        rintro e w20 ⟨rfl, h20⟩
                        subst w20
                        rw [e2]
                        clear e2
                        obtain ⟨av, cv, hcv, -⟩ := HK.out.val
                        simp only [List.length_cons, List.length_nil, Nat.zero_add] at hcv
                        clear HK
                        go_wp2
                        go_ret
                        exact ⟨rfl, hB.trans (hF.mono hB.size)⟩
                      | false =>
                        have HK : Bx (Chk w4.heap.size [⟨(msgL l).toArray⟩, ⟨(msgL l2).toArray⟩] w6) := ⟨by have := HK6.out; rw [after_false e1, after_false e2] at this; exact this⟩
                        clear HK6 e1
                        go_wp2_with fail
                        refine (message_any b1 n n l _ (HC1.out.below hF) HN1.out).mono ?_
                        rintro e w8 ⟨rfl, hBm7⟩
                        replace HK : Bx (Chk w4.heap.size [⟨(msgL l).toArray⟩, ⟨(msgL l2).toArray⟩] w8) := ⟨HK.out.below hBm7⟩
                        replace hF := hF.trans (hBm7.mono hF.size)
                        clear hBm7
                        go_wp2_with fail
                        refine (isAt_any w4.heap.size [⟨(msgL l).toArray⟩, ⟨(msgL l2).toArray⟩] 0 _ (by rfl) _ _ HK.out (by simp) (by simp) rfl).mono ?_
                        rintro e w9 ⟨rfl, hBi7⟩
                        replace HK : Bx (Chk w4.heap.size [⟨(msgL l).toArray⟩, ⟨(msgL l2).toArray⟩] w9) := ⟨HK.out.below hBi7⟩
                        replace hF := hF.trans (hBi7.mono hF.size)
                        clear hBi7
                        go_wp2_with fail
                        refine (member_any b2 n2 n2 l2 q _ (HC2.out.below hF) (by omega)).mono ?_
                        rintro e w20 ⟨rfl, h20⟩
                        subst w20
                        rw [e2]
                        clear e2
                        go_wp2_with fail
                        refine (message_any b2 n2 n2 l2 _ (HC2.out.below hF) HN2.out).mono ?_
                        rintro e w10 ⟨rfl, hBm9⟩
                        replace HK : Bx (Chk w4.heap.size [⟨(msgL l).toArray⟩, ⟨(msgL l2).toArray⟩] w10) := ⟨HK.out.below hBm9⟩
                        replace hF := hF.trans (hBm9.mono hF.size)
                        clear hBm9
                        go_wp2_with fail
                        refine (isAt_any w4.heap.size [⟨(msgL l).toArray⟩, ⟨(msgL l2).toArray⟩] 1 _ (by rfl) _ _ HK.out (by simp) (by simp) rfl).mono ?_
                        rintro e w11 ⟨rfl, hBi9⟩
                        replace HK : Bx (Chk w4.heap.size [⟨(msgL l).toArray⟩, ⟨(msgL l2).toArray⟩] w11) := ⟨HK.out.below hBi9⟩
                        replace hF := hF.trans (hBi9.mono hF.size)
                        clear hBi9
                        obtain ⟨av, cv, hcv, -⟩ := HK.out.val
                        simp only [List.length_cons, List.length_nil, Nat.zero_add] at hcv
                        clear HK
                        go_wp2
                        go_ret
                        exact ⟨rfl, hB.trans (hF.mono hB.size)⟩
                · by_cases hlt2 : i < n2
                  · have hltI2 : (i : Int) < n2 := by omega
                    go_wp2
                    go_ret
                    exact ⟨rfl, Below.refl _ _⟩
                  · have hltI2 : ¬ (i : Int) < n2 := by omega
                    go_wp2
                    go_ret
                    exact ⟨rfl, Below.refl _ _⟩
          · by_cases hn0 : (0 : Int) < n2
            · by_cases hlt : j < n
              · have hltI : (j : Int) < n := by omega
                go_wp2
                refine wp_loop_rounds 1 ?_
                rw [rounds_succ]
                go_wp2
                go_ret
                exact ⟨rfl, Below.refl _ _⟩
              · have hltI : ¬ (j : Int) < n := by omega
                go_wp2
                refine wp_loop_rounds 1 ?_
                rw [rounds_succ]
                go_wp2
                go_ret
                exact ⟨rfl, Below.refl _ _⟩
            · by_cases hlt : j < n
              · have hltI : (j : Int) < n := by omega
                go_wp2
                refine wp_loop_rounds 1 ?_
                rw [rounds_succ]
                go_wp2
                go_ret
                exact ⟨rfl, Below.refl _ _⟩
              · have hltI : ¬ (j : Int) < n := by omega
                go_wp2
                refine wp_loop_rounds 1 ?_
                rw [rounds_succ]
                go_wp2
                go_ret
                exact ⟨rfl, Below.refl _ _⟩
      · go_wp2
        go_ret
        exact ⟨rfl, Below.refl _ _⟩
    · go_wp2
      go_ret
      exact ⟨rfl, Below.refl _ _⟩
end Go.Proofs.Qxb6618968a
