import Derived.Test.Qxb6618968aRows
import Derived.Test.Qxb6618968aShelf
import Derived.WalkKit
import Derived.WalkSpells
import Derived.WalkLawsBesides
import Derived.BigQuiet
import Derived.Lib.LazyBuf
import Derived.Lib.Join
namespace Go.Proofs.Qxb6618968a
open Go.RowKit

/-- A fact kept from the walk: a structure, so that nothing looks into it. -/
structure Bx (p : Prop) : Prop where
  out : p

def lens (l : List ByteArray) : Nat := (l.map (·.size)).sum
theorem lens_nil : lens [] = 0 := rfl
theorem lens_append (a b : List ByteArray) : lens (a ++ b) = lens a + lens b := by simp [lens]
theorem lens_take_succ (l : List ByteArray) (j : Nat) (h : j < l.length) : lens (l.take (j + 1)) = lens (l.take j) + (l.getD j ByteArray.empty).size := by
  rw [List.take_succ_eq_append_getElem h, lens_append]
  simp [lens, List.getD_eq_getElem?_getD, List.getElem?_eq_getElem h]
theorem lens_take_le (l : List ByteArray) (j : Nat) : lens (l.take j) ≤ lens l := by
  have := lens_append (l.take j) (l.drop j)
  rw [List.take_append_drop] at this
  omega

/-- A slice of strings that holds l. -/
def StrsAt (w : World) (g o : Nat) (l : List ByteArray) : Prop := ∀ j, j < l.length → w.cell? ⟨g, o + j, none⟩ = some (.string (l.getD j ByteArray.empty))
def IsStrs (w : World) (a : Option Addr) (n c : Nat) (l : List ByteArray) : Prop :=
  (n = 0 ∧ l = [] ∧ (a = none → c = 0)) ∨ ∃ g o, a = some ⟨g, o, none⟩ ∧ l.length = n ∧ 1 ≤ n ∧ n ≤ c ∧ StrsAt w g o l
theorem StrsAt.below {w w' : World} {g o : Nat} {l : List ByteArray} (h : StrsAt w g o l) (hb : Below w.heap.size w w') : StrsAt w' g o l := by
  intro j hj
  have := h j hj
  rw [hb.cell (World.block_lt_of_cell? w _ this)]
  exact this
theorem IsStrs.below {w w' : World} {a : Option Addr} {n c : Nat} {l : List ByteArray} (h : IsStrs w a n c l) (hb : Below w.heap.size w w') : IsStrs w' a n c l := by
  rcases h with h | ⟨g, o, h1, h2, h3, h4, h5⟩
  · exact .inl h
  · exact .inr ⟨g, o, h1, h2, h3, h4, h5.below hb⟩
theorem IsStrs.len {w : World} {a : Option Addr} {n c : Nat} {l : List ByteArray} (h : IsStrs w a n c l) : l.length = n := by
  rcases h with ⟨rfl, rfl, -⟩ | ⟨_, _, _, h, _⟩
  · rfl
  · exact h

theorem below_drewN {B : Nat} {a w : World} (h : Below B a w) (n : Nat) : Below B a (w.drewN n) :=
  h.trans ⟨rfl, rfl, rfl, Nat.le_refl _, fun _ _ => rfl⟩

/-! ### zzBytes of AcceptsEveryMember: a bool; where it is true the lengths add up to at most 1048576. -/
set_option maxRecDepth 100000 in
set_option maxHeartbeats 400000 in
theorem bytesM_any (a : Option Addr) (n c : Nat) (l : List ByteArray) (i k : Int) (w : World) (hb : IsStrs w a n c l) (hn : n ≤ maxLen) (hs : ∀ s ∈ l, s.size ≤ maxLen) :
    Calls Try.prog 13 #[.slice a n c, .int .i64 i, .int .i64 k] w fun e w' => (e = .returned (.bool false) ∨ (e = .returned (.bool true) ∧ n + lens l ≤ 1048576)) ∧ w' = w := by
  unfold maxLen at hn
  by_cases hbig : n ≤ 1048576
  · have hbI : (n : Int) ≤ 1048576 := by omega
    have HL := Bx.mk hb.len
    have HB := Bx.mk hb
    have HS := Bx.mk hs
    clear hb hs hbig
    go_enter Try.func13, Try.ntmps13
    go_wp2
    go_loop [7, 8] (fun t7 t8 => ∃ j z : Nat, j ≤ n ∧ t8 = .int .i64 j ∧ t7 = .int .i64 z ∧ Bx (z = n + lens (l.take j)) ∧ z ≤ 1048576) (fun _ t8 => n - (intOf t8).toNat)
    case atStart => exact ⟨0, n, Nat.zero_le _, rfl, rfl, ⟨by simp [lens_nil]⟩, by omega⟩
    case round =>
      obtain ⟨j, z, hj, rfl, rfl, hz, hz2⟩ := hrel
      have hz2I : (z : Int) ≤ 1048576 := by omega
      clear hz2
      by_cases hlt : j < n
      · have hltI : (j : Int) < n := by omega
        have hjl : j < l.length := by rw [HL.out]; exact hlt
        obtain ⟨g, o, rfl, hcell⟩ : ∃ g o, a = some ⟨g, o, none⟩ ∧ w.cell? ⟨g, o + j, none⟩ = some (.string (l.getD j ByteArray.empty)) := by
          rcases HB.out with ⟨h, _⟩ | ⟨g, o, h1, h2, h3, h4, h5⟩
          · omega
          · exact ⟨g, o, h1, h5 j hjl⟩
        have hsz : (l.getD j ByteArray.empty).size ≤ 9223372036854775807 := by
          have hm : l.getD j ByteArray.empty ∈ l := by
            rw [List.getD_eq_getElem?_getD, List.getElem?_eq_getElem hjl]; exact List.getElem_mem hjl
          exact HS.out _ hm
        have hst := Bx.mk (lens_take_succ l j hjl)
        generalize l.getD j ByteArray.empty = s at *
        by_cases h1 : (s.size : Int) ≤ 1048576
        · by_cases h2 : (z : Int) + s.size ≤ 1048576
          · go_wp2
            go_round
            case rel => exact ⟨j + 1, z + s.size, by omega, by go_num, by go_num, ⟨by have := hz.out; have := hst.out; omega⟩, by omega⟩
            case measure => simp [intOf]; omega
          · go_wp2
            go_ret
            exact ⟨.inl rfl, rfl⟩
        · go_wp2
          go_ret
          exact ⟨.inl rfl, rfl⟩
      · have hltI : ¬ (j : Int) < n := by omega
        go_wp2
        go_ret
        refine ⟨.inr ⟨rfl, ?_⟩, rfl⟩
        have := hz.out
        rw [List.take_of_length_le (by rw [HL.out]; omega)] at this
        omega
  · have hbI : (1048576 : Int) < n := by omega
    clear hbig
    go_enter Try.func13, Try.ntmps13
    go_wp2
    go_ret
    exact ⟨.inl rfl, rfl⟩
end Go.Proofs.Qxb6618968a
