import Derived.Test.Qxb6618968aWalkB
namespace Go.Proofs.Qxb6618968a
open Go.RowKit

def joinL (l : List ByteArray) : List UInt8 := Lib.join (l.map (·.data.toList)) [44, 32]
theorem lens_lib (l : List ByteArray) : Lib.lens (l.map (·.data.toList)) = lens l := by
  simp [Lib.lens, lens, List.map_map]
  rfl
theorem joinL_length (l : List ByteArray) : (joinL l).length ≤ 2 * l.length + lens l := by
  cases l with
  | nil => simp [joinL, Lib.join]
  | cons x r =>
    unfold joinL
    rw [List.map_cons, Lib.join_length, ← List.map_cons (f := fun x : ByteArray => x.data.toList), lens_lib]
    simp
    omega
def msgL (l : List ByteArray) : List UInt8 := [109, 117, 115, 116, 32, 98, 101, 32, 111, 110, 101, 32, 111, 102, 32] ++ joinL l

theorem join_any (a : Option Addr) (n c : Nat) (l : List ByteArray) (w : World) (hb : IsStrs w a n c l) (hn : n + lens l ≤ 1048576) :
    Calls Try.prog 22 #[.slice a n c, .string ⟨#[44, 32]⟩] w fun e w' => e = .returned (.string ⟨(joinL l).toArray⟩) ∧ Below w.heap.size w w' := by
  have hl := hb.len
  rcases hb with ⟨rfl, rfl, h⟩ | ⟨g, o, rfl, h2, h3, h4, h5⟩
  · refine (Try.strings_Join_none a c _ w).mono ?_
    rintro e w' ⟨rfl, rfl⟩
    exact ⟨rfl, Below.refl _ _⟩
  · subst h2
    have hc0 := h5 0 (by omega)
    have hjl := joinL_length l
    refine (Try.strings_Join g o c l ⟨#[44, 32]⟩ w (fun j x hx => ?_) (World.block_lt_of_cell? w _ hc0) (by omega) h4 ?_).mono ?_
    · have hj : j < l.length := (List.getElem?_eq_some_iff.1 hx).1
      rw [h5 j hj, List.getD_eq_getElem?_getD, hx]; rfl
    · show (joinL l).length ≤ _
      omega
    · rintro e w' ⟨rfl, hB⟩
      exact ⟨rfl, hB⟩

set_option maxHeartbeats 400000 in
theorem oneOf_any (a : Option Addr) (n c : Nat) (l : List ByteArray) (w : World) (hb : IsStrs w a n c l) (hn : n + lens l ≤ 1048576) :
    Calls Try.prog 17 #[.slice a n c] w fun e w' => ∃ B M : Nat, e = .returned (.func (.func 23) #[] #[.pointer (some ⟨B, 0, none⟩), .pointer (some ⟨M, 0, none⟩)]) ∧ w'.cell? ⟨B, 0, none⟩ = some (.slice a n c) ∧ w'.cell? ⟨M, 0, none⟩ = some (.string ⟨(msgL l).toArray⟩) ∧ Below w.heap.size w w' := by
  have hA : Below w.heap.size w (w.alloc (.cells #[.slice a n c] 22)) := (Below.refl _ _).alloc (Nat.le_refl _) _
  have HB := Bx.mk (hb.below hA)
  have hnn := Bx.mk hn
  have hjl : (joinL l).length ≤ 3000000 := by have := joinL_length l; have := hb.len; omega
  clear hb hn
  go_enter Try.func17, Try.ntmps17
  go_wp2_with fail
  refine (join_any a n c l _ HB.out hnn.out).mono ?_
  rintro e w1 ⟨rfl, hB1⟩
  have hc0 : w1.cell? ⟨w.heap.size, 0, none⟩ = some (.slice a n c) := by
    rw [hB1.cell (p := ⟨w.heap.size, 0, none⟩) (by simp)]; simp
  have hB := hA.trans (hB1.mono (by simp))
  clear hB1 hA
  have hmsg : Bx (msgL l = [109, 117, 115, 116, 32, 98, 101, 32, 111, 110, 101, 32, 111, 102, 32] ++ joinL l) := ⟨rfl⟩
  generalize joinL l = J at *
  go_wp2
  go_ret
  refine ⟨w.heap.size, w1.heap.size, rfl, ?_, ?_, hB.alloc hB.size _⟩
  · have hlt : w.heap.size < w1.heap.size := World.block_lt_of_cell? w1 ⟨w.heap.size, 0, none⟩ hc0
    rw [((Below.refl w1.heap.size w1).alloc (Nat.le_refl _) _).cell (p := ⟨w.heap.size, 0, none⟩) hlt]; exact hc0
  · rw [World.cell?_alloc_new, hmsg.out]
    simp
    rfl

/-- s is one of l. -/
def mem (l : List ByteArray) (s : ByteArray) : Bool := Lib.containsS l s
theorem mem_iff (l : List ByteArray) (s : ByteArray) : mem l s = true ↔ s ∈ l := Lib.containsS_iff l s

theorem contains_any (a : Option Addr) (n c : Nat) (l : List ByteArray) (s : ByteArray) (w : World) (hb : IsStrs w a n c l) (hn : n ≤ 1048576) :
    Calls Try.prog 24 #[.slice a n c, .string s] w fun e w' => e = .returned (.bool (mem l s)) ∧ w' = w := by
  have hl := hb.len
  rcases hb with ⟨rfl, rfl, h⟩ | ⟨g, o, rfl, h2, h3, h4, h5⟩
  · refine (Try.slices_Contains_string_empty a c s w).mono ?_
    rintro e w' ⟨rfl, rfl⟩
    exact ⟨rfl, rfl⟩
  · subst h2
    refine (Try.slices_Contains_string g o l.length c l s w (Nat.le_refl _) (by omega) h5).mono ?_
    rintro e w' ⟨rfl, rfl⟩
    refine ⟨?_, rfl⟩
    rw [List.take_length]
    rfl

/-! ### The type assertions -/
theorem assert_str (v : Value) (w : World) : (Instr.typeAssert (.iface 9 v) 20 9 true).run Try.prog w = .ok (.tuple #[v, .bool true]) w := by
  simp [Instr.typeAssert, run_underlying Try.underlying9]
theorem Try.zero9 : (Try.prog.info? 9).map (fun i => i.zero) = some (some (.string ByteArray.empty)) := by kernel_rfl
theorem assert_int (v : Value) (w : World) : (Instr.typeAssert (.iface 3 v) 20 9 true).run Try.prog w = .ok (.tuple #[.string ByteArray.empty, .bool false]) w := by
  obtain ⟨i, hi, hz⟩ := Option.map_eq_some_iff.1 Try.zero9
  simp [Instr.typeAssert, run_underlying Try.underlying9, zeroValue, typeInfo, hi, hz]

def codeOf (l : List ByteArray) (s : ByteArray) : Int := if mem l s then 0 else 1002
def textOf (l : List ByteArray) (s : ByteArray) (m : ByteArray) : ByteArray := if mem l s then ⟨#[]⟩ else m

set_option maxHeartbeats 400000 in
theorem leaf_any (B M : Nat) (a : Option Addr) (n c : Nat) (l : List ByteArray) (s m : ByteArray) (w : World) (hb : IsStrs w a n c l) (hn : n ≤ 1048576) (cB : w.cell? ⟨B, 0, none⟩ = some (.slice a n c)) (cM : w.cell? ⟨M, 0, none⟩ = some (.string m)) :
    Calls Try.prog 23 #[.iface 9 (.string s), .pointer (some ⟨B, 0, none⟩), .pointer (some ⟨M, 0, none⟩)] w fun e w' => e = .returned (.tuple #[.int .i64 (codeOf l s), .string (textOf l s m)]) ∧ ∃ nq, w' = w.drewN nq := by
  have ha := assert_str (.string s)
  have HB := Bx.mk hb
  clear hb
  cases hm : mem l s with
  | true =>
    have hd : Bx (mem l s = true) := ⟨hm⟩
    have e1 : codeOf l s = 0 := by unfold codeOf; rw [hm]; rfl
    have e2 : textOf l s m = ⟨#[]⟩ := by unfold textOf; rw [hm]; rfl
    rw [e1, e2]
    clear e1 e2 hm
    go_enter Try.func23, Try.ntmps23
    go_wp2_with (go_at_call 24; refine (contains_any a n c l s _ HB.out hn).mono ?_; rintro e w2 ⟨rfl, h2⟩; subst w2; rw [hd.out])
    go_ret2
    exact ⟨rfl, 0, rfl⟩
  | false =>
    have hd : Bx (mem l s = false) := ⟨hm⟩
    have e1 : codeOf l s = 1002 := by unfold codeOf; rw [hm]; rfl
    have e2 : textOf l s m = m := by unfold textOf; rw [hm]; rfl
    rw [e1, e2]
    clear e1 e2 hm
    go_enter Try.func23, Try.ntmps23
    go_wp2_with (go_at_call 24; refine (contains_any a n c l s _ HB.out hn).mono ?_; rintro e w2 ⟨rfl, h2⟩; subst w2; rw [hd.out])
    go_quiet (fail)
    go_wp2
    go_ret2
    exact ⟨rfl, _, rfl⟩
end Go.Proofs.Qxb6618968a
