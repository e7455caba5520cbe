import Derived.Test.Qxb6618968aWalkG
namespace Go.Proofs.Qxb6618968a
open Go.RowKit

theorem Chk.below {b : Nat} {ms : List ByteArray} {w w' : World} (h : Chk b ms w) (hb : Below w.heap.size w w') : Chk b ms w' := by
  have hlt := h.lt
  obtain ⟨⟨a, cap, hc, hown⟩, hf⟩ := h
  refine ⟨⟨a, cap, by rw [hb.cell (p := ⟨b, 0, none⟩) hlt]; exact hc, hown.1, ?_⟩, by rw [hb.frozen (p := ⟨b, 0, none⟩) hlt]; exact hf⟩
  rcases hown.2 with h | ⟨g, cap', cur, hv, hbg, hg, rest⟩
  · exact .inl h
  · exact .inr ⟨g, cap', cur, hv, hbg, by rw [hb.block g (Array.getElem?_eq_some_iff.1 hg).1]; exact hg, rest⟩

def after (l : List ByteArray) (s m : ByteArray) (ms : List ByteArray) : List ByteArray := if mem l s then ms else ms ++ [m]

set_option maxHeartbeats 400000 in
theorem check_any (b : Nat) (ms : List ByteArray) (B M : Nat) (a : Option Addr) (n c : Nat) (l : List ByteArray) (s m : ByteArray) (w : World) (hk : Chk b ms w) (hms : ms.length ≤ 100) (hb : IsStrs w a n c l) (hn : n ≤ 1048576) (cB : w.cell? ⟨B, 0, none⟩ = some (.slice a n c)) (cM : w.cell? ⟨M, 0, none⟩ = some (.string m)) :
    Calls Try.prog 19 #[.func (.func 23) #[] #[.pointer (some ⟨B, 0, none⟩), .pointer (some ⟨M, 0, none⟩)], .pointer (some ⟨b, 0, none⟩), .agg #[.slice none 0 0], .iface 9 (.string s)] w fun e w' => e = .returned (.tuple #[]) ∧ Chk b (after l s m ms) w' ∧ Below b w w' := by
  have hA : Below w.heap.size w (w.alloc (.cells #[.slice none 0 0] 44)) := (Below.refl _ _).alloc (Nat.le_refl _) _
  have hlt := hk.lt
  have HB := Bx.mk (hb.below hA)
  have HK := Bx.mk (hk.below hA)
  have cB' : (w.alloc (.cells #[.slice none 0 0] 44)).cell? ⟨B, 0, none⟩ = some (.slice a n c) := by rw [hA.cell (p := ⟨B, 0, none⟩) (World.block_lt_of_cell? w ⟨B, 0, none⟩ cB)]; exact cB
  have cM' : (w.alloc (.cells #[.slice none 0 0] 44)).cell? ⟨M, 0, none⟩ = some (.string m) := by rw [hA.cell (p := ⟨M, 0, none⟩) (World.block_lt_of_cell? w ⟨M, 0, none⟩ cM)]; exact cM
  have hpath : (w.alloc (.cells #[.slice none 0 0] 44)).cell? ⟨w.heap.size, 0, none⟩ = some (.slice none 0 0) := by simp
  have hAb := hA.mono (Nat.le_of_lt hlt)
  clear hb hk cB cM hA
  cases hm : mem l s with
  | true =>
    have ec : Bx (codeOf l s = 0) := ⟨by unfold codeOf; rw [hm]; rfl⟩
    have ea : after l s m ms = ms := by unfold after; rw [hm]; rfl
    rw [ea]
    clear ea hm
    go_enter Try.func19, Try.ntmps19
    go_wp2_with fail
    refine (leaf_any B M a n c l s m _ HB.out hn cB' cM').mono ?_
    rintro e w2 ⟨rfl, nq, rfl⟩
    rw [ec.out]
    have HK2 : Bx (Chk b ms ((w.alloc (.cells #[.slice none 0 0] 44)).drewN nq)) := ⟨HK.out.below (below_drewN (Below.refl _ _) nq)⟩
    have hB2 := below_drewN hAb nq
    generalize (w.alloc (.cells #[.slice none 0 0] 44)).drewN nq = W at *
    go_wp2
    go_end0
    exact ⟨rfl, HK2.out, hB2⟩
  | false =>
    have ec : Bx (codeOf l s = 1002) := ⟨by unfold codeOf; rw [hm]; rfl⟩
    have et : Bx (textOf l s m = m) := ⟨by unfold textOf; rw [hm]; rfl⟩
    have ea : after l s m ms = ms ++ [m] := by unfold after; rw [hm]; rfl
    rw [ea]
    clear ea hm
    go_enter Try.func19, Try.ntmps19
    go_wp2_with fail
    refine (leaf_any B M a n c l s m _ HB.out hn cB' cM').mono ?_
    rintro e w2 ⟨rfl, nq, rfl⟩
    rw [ec.out, et.out]
    have HK2 : Bx (Chk b ms ((w.alloc (.cells #[.slice none 0 0] 44)).drewN nq)) := ⟨HK.out.below (below_drewN (Below.refl _ _) nq)⟩
    have hp2 : ((w.alloc (.cells #[.slice none 0 0] 44)).drewN nq).cell? ⟨w.heap.size, 0, none⟩ = some (.slice none 0 0) := hpath
    have hB2 := below_drewN hAb nq
    clear hpath cB' cM' HB HK hAb
    generalize (w.alloc (.cells #[.slice none 0 0] 44)).drewN nq = W at *
    go_wp2_with fail
    refine (report_any b ms m _ HK2.out hms).mono ?_
    rintro e w3 ⟨rfl, hk3, hB3⟩
    have HK3 := Bx.mk hk3
    clear hk3 hp2
    go_wp2
    go_end0
    exact ⟨rfl, HK3.out, hB2.trans hB3⟩

set_option maxHeartbeats 400000 in
theorem zzCheck_any (b : Nat) (ms : List ByteArray) (a : Option Addr) (n c : Nat) (l : List ByteArray) (s : ByteArray) (w : World) (hk : Chk b ms w) (hms : ms.length ≤ 100) (hb : IsStrs w a n c l) (hn : n + lens l ≤ 1048576) :
    Calls Try.prog 9 #[.slice a n c, .pointer (some ⟨b, 0, none⟩), .string s] w fun e w' => e = .returned (.tuple #[]) ∧ Chk b (after l s ⟨(msgL l).toArray⟩ ms) w' ∧ Below b w w' := by
  have HB := Bx.mk hb
  have HK := Bx.mk hk
  have HN := Bx.mk hn
  have hlt := hk.lt
  clear hb hn hk
  go_enter Try.func9, Try.ntmps9
  go_wp2_with fail
  refine (oneOf_any a n c l _ HB.out HN.out).mono ?_
  rintro e w1 ⟨B, M, rfl, cB, cM, hB⟩
  replace HB : Bx (IsStrs w1 a n c l) := ⟨HB.out.below hB⟩
  replace HK : Bx (Chk b ms w1) := ⟨HK.out.below hB⟩
  go_wp2_with fail
  refine (check_any b ms B M a n c l s _ _ HK.out hms HB.out (by have := HN.out; omega) cB cM).mono ?_
  rintro e w2 ⟨rfl, hk2, hB2⟩
  have HK2 := Bx.mk hk2
  clear cB cM hk2
  go_wp2
  go_end0
  exact ⟨rfl, HK2.out, (hB.mono (Nat.le_of_lt hlt)).trans hB2⟩

set_option maxHeartbeats 400000 in
theorem funcCheck_any (b : Nat) (ms : List ByteArray) (B M : Nat) (a : Option Addr) (n c : Nat) (l : List ByteArray) (s m : ByteArray) (w : World) (hk : Chk b ms w) (hms : ms.length ≤ 100) (hb : IsStrs w a n c l) (hn : n ≤ 1048576) (cB : w.cell? ⟨B, 0, none⟩ = some (.slice a n c)) (cM : w.cell? ⟨M, 0, none⟩ = some (.string m)) :
    Calls Try.prog 21 #[.func (.func 19) #[.func (.func 23) #[] #[.pointer (some ⟨B, 0, none⟩), .pointer (some ⟨M, 0, none⟩)]] #[], .pointer (some ⟨b, 0, none⟩), .agg #[.slice none 0 0], .iface 9 (.string s)] w fun e w' => e = .returned (.tuple #[]) ∧ Chk b (after l s m ms) w' ∧ Below b w w' := by
  have hA : Below w.heap.size w (w.alloc (.cells #[.slice none 0 0] 44)) := (Below.refl _ _).alloc (Nat.le_refl _) _
  have hlt := hk.lt
  have HB := Bx.mk (hb.below hA)
  have HK := Bx.mk (hk.below hA)
  have cB' : (w.alloc (.cells #[.slice none 0 0] 44)).cell? ⟨B, 0, none⟩ = some (.slice a n c) := by rw [hA.cell (p := ⟨B, 0, none⟩) (World.block_lt_of_cell? w ⟨B, 0, none⟩ cB)]; exact cB
  have cM' : (w.alloc (.cells #[.slice none 0 0] 44)).cell? ⟨M, 0, none⟩ = some (.string m) := by rw [hA.cell (p := ⟨M, 0, none⟩) (World.block_lt_of_cell? w ⟨M, 0, none⟩ cM)]; exact cM
  have hAb := hA.mono (Nat.le_of_lt hlt)
  clear hb hk cB cM hA
  go_enter Try.func21, Try.ntmps21
  go_wp2_with fail
  refine (check_any b ms B M a n c l s m _ HK.out hms HB.out hn cB' cM').mono ?_
  rintro e w2 ⟨rfl, hk2, hB2⟩
  have HK2 := Bx.mk hk2
  clear hk2
  go_wp2
  go_end0
  exact ⟨rfl, HK2.out, hAb.trans hB2⟩

set_option maxHeartbeats 400000 in
theorem zzFuncCheck_any (b : Nat) (ms : List ByteArray) (a : Option Addr) (n c : Nat) (l : List ByteArray) (s : ByteArray) (w : World) (hk : Chk b ms w) (hms : ms.length ≤ 100) (hb : IsStrs w a n c l) (hn : n + lens l ≤ 1048576) :
    Calls Try.prog 16 #[.slice a n c, .pointer (some ⟨b, 0, none⟩), .string s] w fun e w' => e = .returned (.tuple #[]) ∧ Chk b (after l s ⟨(msgL l).toArray⟩ ms) w' ∧ Below b w w' := by
  have HB := Bx.mk hb
  have HK := Bx.mk hk
  have HN := Bx.mk hn
  have hlt := hk.lt
  clear hb hn hk
  go_enter Try.func16, Try.ntmps16
  go_wp2_with fail
  refine (oneOf_any a n c l _ HB.out HN.out).mono ?_
  rintro e w1 ⟨B, M, rfl, cB, cM, hB⟩
  replace HB : Bx (IsStrs w1 a n c l) := ⟨HB.out.below hB⟩
  replace HK : Bx (Chk b ms w1) := ⟨HK.out.below hB⟩
  go_wp2_with fail
  refine (funcCheck_any b ms B M a n c l s _ _ HK.out hms HB.out (by have := HN.out; omega) cB cM).mono ?_
  rintro e w2 ⟨rfl, hk2, hB2⟩
  have HK2 := Bx.mk hk2
  clear cB cM hk2
  go_wp2
  go_end0
  exact ⟨rfl, HK2.out, (hB.mono (Nat.le_of_lt hlt)).trans hB2⟩
end Go.Proofs.Qxb6618968a
