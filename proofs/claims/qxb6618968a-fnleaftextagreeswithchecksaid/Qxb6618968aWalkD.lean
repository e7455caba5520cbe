import Derived.Test.Qxb6618968aWalkC
namespace Go.Proofs.Qxb6618968a
open Go.RowKit

theorem toList_nil (s : ByteArray) : s.toList = [] ↔ s.size = 0 := by
  rw [ByteArray.toList_eq]
  constructor
  · intro h; exact congrArg List.length h
  · intro h; exact List.length_eq_zero_iff.1 h
theorem empty_of (s : ByteArray) (h : s.size = 0) : s = ⟨#[]⟩ := by
  cases s with
  | mk d => exact congrArg ByteArray.mk (Array.size_eq_zero_iff.1 h)

def okOf (l : List ByteArray) (s : ByteArray) : Bool := if s.size = 0 then false else mem l s

set_option maxHeartbeats 400000 in
theorem text_str (B M : Nat) (a : Option Addr) (n c : Nat) (l : List ByteArray) (s m : ByteArray) (w : World) (hb : IsStrs w a n c l) (hn : n ≤ 1048576) (cB : w.cell? ⟨B, 0, none⟩ = some (.slice a n c)) (cM : w.cell? ⟨M, 0, none⟩ = some (.string m)) :
    Calls Try.prog 18 #[.func (.func 23) #[] #[.pointer (some ⟨B, 0, none⟩), .pointer (some ⟨M, 0, none⟩)], .iface 9 (.string s)] w fun e w' => e = .returned (.tuple #[.string s, .bool (okOf l s)]) ∧ Below w.heap.size w w' := by
  have ha := assert_str (.string s)
  have HB := Bx.mk hb
  clear hb
  by_cases h0 : s.size = 0
  · have e1 : okOf l s = false := by unfold okOf; rw [if_pos h0]
    have e2 := empty_of s h0
    rw [e1]
    subst e2
    clear h0 e1
    go_enter Try.func18, Try.ntmps18
    go_wp2
    go_ret2
    exact ⟨rfl, Below.refl _ _⟩
  · have e1 : okOf l s = mem l s := by unfold okOf; rw [if_neg h0]
    rw [e1]
    have hne : s.toList.isEmpty = false := by
      rw [List.isEmpty_eq_false_iff]
      exact fun h => h0 ((toList_nil s).1 h)
    clear e1 h0
    cases hm : mem l s with
    | true =>
      have ec : Bx (codeOf l s = 0) := ⟨by unfold codeOf; rw [hm]; rfl⟩
      go_enter Try.func18, Try.ntmps18
      go_wp2_with (go_at_call 23; refine (leaf_any B M a n c l s m _ HB.out hn cB cM).mono ?_; rintro e w2 ⟨rfl, nq, rfl⟩; rw [ec.out])
      go_ret2
      exact ⟨rfl, by first | exact Below.refl _ _ | exact below_drewN (Below.refl _ _) _⟩
    | false =>
      have ec : Bx (codeOf l s = 1002) := ⟨by unfold codeOf; rw [hm]; rfl⟩
      go_enter Try.func18, Try.ntmps18
      go_wp2_with (go_at_call 23; refine (leaf_any B M a n c l s m _ HB.out hn cB cM).mono ?_; rintro e w2 ⟨rfl, nq, rfl⟩; rw [ec.out])
      go_ret2
      exact ⟨rfl, by first | exact Below.refl _ _ | exact below_drewN (Below.refl _ _) _⟩

set_option maxHeartbeats 400000 in
theorem text_int (f : Value) (k : Int) (w : World) :
    Calls Try.prog 18 #[f, .iface 3 (.int .i64 k)] w fun e w' => e = .returned (.tuple #[.string ⟨#[]⟩, .bool false]) ∧ w' = w := by
  have ha := assert_int (.int .i64 k)
  go_enter Try.func18, Try.ntmps18
  go_wp2
  go_ret2
  exact ⟨rfl, rfl⟩

set_option maxHeartbeats 400000 in
theorem zzText_any (a : Option Addr) (n c : Nat) (l : List ByteArray) (s : ByteArray) (w : World) (hb : IsStrs w a n c l) (hn : n + lens l ≤ 1048576) :
    Calls Try.prog 8 #[.slice a n c, .string s] w fun e w' => e = .returned (.tuple #[.string s, .bool (okOf l s)]) ∧ Below w.heap.size w w' := by
  have HB := Bx.mk hb
  have HN := Bx.mk hn
  clear hb hn
  go_enter Try.func8, Try.ntmps8
  go_wp2_with fail
  refine (oneOf_any a n c l _ HB.out HN.out).mono ?_
  rintro e w1 ⟨B, M, rfl, cB, cM, hB⟩
  replace HB : Bx (IsStrs w1 a n c l) := ⟨HB.out.below hB⟩
  go_wp2_with fail
  refine (text_str B M a n c l s _ _ HB.out (by have := HN.out; omega) cB cM).mono ?_
  rintro e w2 ⟨rfl, hB2⟩
  clear cB cM
  go_wp2
  go_ret2
  exact ⟨rfl, hB.trans (hB2.mono hB.size)⟩

set_option maxHeartbeats 400000 in
theorem zzTextInt_any (a : Option Addr) (n c : Nat) (l : List ByteArray) (k : Int) (w : World) (hb : IsStrs w a n c l) (hn : n + lens l ≤ 1048576) :
    Calls Try.prog 14 #[.slice a n c, .int .i64 k] w fun e w' => e = .returned (.tuple #[.string ⟨#[]⟩, .bool false]) ∧ Below w.heap.size w w' := by
  have HB := Bx.mk hb
  have HN := Bx.mk hn
  clear hb hn
  go_enter Try.func14, Try.ntmps14
  go_wp2_with fail
  refine (oneOf_any a n c l _ HB.out HN.out).mono ?_
  rintro e w1 ⟨B, M, rfl, cB, cM, hB⟩
  clear cB cM
  go_wp2_with fail
  refine (text_int _ k _).mono ?_
  rintro e w2 ⟨rfl, h2⟩
  subst w2
  go_wp2
  go_ret2
  exact ⟨rfl, hB⟩
end Go.Proofs.Qxb6618968a
