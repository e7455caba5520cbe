import Derived.Test.Qxb6618968aWalkD
namespace Go.Proofs.Qxb6618968a
open Go.RowKit

theorem getD_mem (l : List ByteArray) (j : Nat) (h : j < l.length) : l.getD j ByteArray.empty ∈ l := by
  rw [List.getD_eq_getElem?_getD, List.getElem?_eq_getElem h]; exact List.getElem_mem h

theorem IsStrs.cellAt {w : World} {a : Option Addr} {n c : Nat} {l : List ByteArray} (h : IsStrs w a n c l) (j : Nat) (hj : j < n) : ∃ g o, a = some ⟨g, o, none⟩ ∧ w.cell? ⟨g, o + j, none⟩ = some (.string (l.getD j ByteArray.empty)) := by
  rcases h with ⟨h, _⟩ | ⟨g, o, h1, h2, h3, h4, h5⟩
  · omega
  · exact ⟨g, o, h1, h5 j (by omega)⟩

set_option maxRecDepth 100000 in
set_option maxHeartbeats 1000000 in
theorem member_law (a : Option Addr) (n c : Nat) (l : List ByteArray) (i k : Int) (w : World) (hb : IsStrs w a n c l) (hn : n ≤ maxLen) (hs : ∀ s ∈ l, s.size ≤ maxLen) :
    Calls Try.prog 4 #[.slice a n c, .int .i64 i, .int .i64 k] w fun e w' => e = .returned (.bool true) ∧ Below w.heap.size w w' := by
  have HBY := Bx.mk (fun w0 (h : IsStrs w0 a n c l) => bytesM_any a n c l i k w0 h hn hs)
  have HL := Bx.mk hb.len
  have HB := Bx.mk hb
  unfold maxLen at hn
  clear hb hs
  go_enter Try.func4, Try.ntmps4
  go_wp2_with fail
  refine (HBY.out _ HB.out).mono ?_
  rintro e w2 ⟨he, h2⟩
  subst w2
  clear HBY
  rcases he with rfl | ⟨rfl, hsum⟩
  · go_wp2
    go_ret
    exact ⟨rfl, Below.refl _ _⟩
  · have HS := Bx.mk hsum
    have hnb : (n : Int) ≤ 1048576 := by omega
    clear hsum hn
    by_cases h65 : (n : Int) ≤ 65536
    · go_wp2_with fail
      go_loop [7, 8] (fun t7 t8 => ∃ j z : Nat, j ≤ n ∧ t8 = .int .i64 j ∧ t7 = .int .i64 z ∧ Bx (z = 16 * n + lens (l.take j))) (fun _ t8 => n - (intOf t8).toNat)
      case atStart => exact ⟨0, 16 * n, Nat.zero_le _, rfl, by go_num, ⟨by simp [lens_nil]⟩⟩
      case round =>
        obtain ⟨j, z, hj, rfl, rfl, hz⟩ := hrel
        have hzb : (z : Int) ≤ 4000000 := by have := hz.out; have := lens_take_le l j; have := HS.out; omega
        by_cases hover : (z : Int) ≤ 1048576
        · by_cases hlt : j < n
          · have hltI : (j : Int) < n := by omega
            obtain ⟨g, o, rfl, hcell⟩ := HB.out.cellAt j hlt
            have hjl : j < l.length := by rw [HL.out]; exact hlt
            have hst := Bx.mk (lens_take_succ l j hjl)
            have hsz : (l.getD j ByteArray.empty).size ≤ 1048576 := by
              have := hst.out; have := lens_take_le l (j + 1); have := HS.out; omega
            have hszI : ((l.getD j ByteArray.empty).size : Int) ≤ 1048576 := by omega
            clear hsz
            generalize l.getD j ByteArray.empty = s at *
            go_wp2
            go_round
            case rel => exact ⟨j + 1, z + s.size, by omega, by go_num, by go_num, ⟨by have := hz.out; have := hst.out; omega⟩⟩
            case measure => simp [intOf]; omega
          · have hltI : ¬ (j : Int) < n := by omega
            by_cases hi : 0 ≤ i ∧ i < n
            · obtain ⟨p, rfl⟩ : ∃ p : Nat, i = p := ⟨i.toNat, by omega⟩
              have hp : p < n := by omega
              have hpI : (p : Int) < n := by omega
              clear hi
              go_wp2_with fail
              refine (clone_any a n c l _ HB.out (by omega)).mono ?_
              rintro e w1 ⟨a1, rfl, hb1, hB1⟩
              have HB1 := Bx.mk hb1
              clear hb1 HB
              go_wp2_with fail
              refine (clone_any a1 n n l _ HB1.out (by omega)).mono ?_
              rintro e w2 ⟨a2, rfl, hb2, hB2⟩
              have HB2 := Bx.mk hb2
              replace HB1 : Bx (IsStrs w2 a1 n n l) := ⟨HB1.out.below hB2⟩
              have hB := hB1.trans (hB2.mono hB1.size)
              clear hb2 hB1 hB2
              obtain ⟨g, o, rfl, hcell⟩ := HB1.out.cellAt p hp
              have hmem : Bx (mem l (l.getD p ByteArray.empty) = true) := ⟨(mem_iff _ _).2 (getD_mem l p (by rw [HL.out]; exact hp))⟩
              generalize l.getD p ByteArray.empty = s at *
              go_wp2_with fail
              refine (zzText_any a2 n n l s _ HB2.out HS.out).mono ?_
              rintro e w3 ⟨rfl, hB3⟩
              replace HB2 : Bx (IsStrs w3 a2 n n l) := ⟨HB2.out.below hB3⟩
              replace hB := hB.trans (hB3.mono hB.size)
              clear hB3 HB1 hcell
              go_wp2_with fail
              refine (zzTextInt_any a2 n n l k _ HB2.out HS.out).mono ?_
              rintro e w4 ⟨rfl, hB4⟩
              replace hB := hB.trans (hB4.mono hB.size)
              clear hB4 HB2
              by_cases h0 : s.size = 0
              · have ho : okOf l s = false := by unfold okOf; rw [if_pos h0]
                have hne := (toList_nil s).2 h0
                clear h0
                go_wp2
                go_ret
                exact ⟨rfl, hB⟩
              · have ho : okOf l s = true := by unfold okOf; rw [if_neg h0]; exact hmem.out
                have hne : s.toList.isEmpty = false := by
                  rw [List.isEmpty_eq_false_iff]
                  exact fun h => h0 ((toList_nil s).1 h)
                have hne2 : ¬ s.toList = [] := fun h => h0 ((toList_nil s).1 h)
                clear h0
                go_wp2
                go_ret
                exact ⟨rfl, hB⟩
            · by_cases hi0 : i < 0
              · go_wp2
                go_ret
                exact ⟨rfl, Below.refl _ _⟩
              · have hi1 : (n : Int) ≤ i := by omega
                clear hi
                go_wp2
                go_ret
                exact ⟨rfl, Below.refl _ _⟩
        · by_cases hlt : j < n
          · have hltI : (j : Int) < n := by omega
            go_wp2
            go_ret
            exact ⟨rfl, Below.refl _ _⟩
          · have hltI : ¬ (j : Int) < n := by omega
            go_wp2
            go_ret
            exact ⟨rfl, Below.refl _ _⟩
    · go_wp2
      go_ret
      exact ⟨rfl, Below.refl _ _⟩
end Go.Proofs.Qxb6618968a
