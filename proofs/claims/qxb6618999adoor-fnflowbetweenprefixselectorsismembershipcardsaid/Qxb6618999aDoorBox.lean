import Derived.Test.Qxb6618999aDoorWD
namespace Go.Proofs.Qxb6618999aDoor
open Go Go.RowKit
structure Box (W : World) (b : Nat) (vs : List Value) : Prop where
  cell : ∀ i (h : i < vs.length), W.cell? ⟨b, i, none⟩ = some (vs[i])
  free : ∀ i, i < vs.length → W.frozen? ⟨b, i, none⟩ = false
  lt : b < W.heap.size
theorem cell_heap {W W' : World} (e : W'.heap = W.heap) (p : Addr) : W'.cell? p = W.cell? p := World.cell?_of_block (by rw [e])
theorem frozen_heap {W W' : World} (e : W'.heap = W.heap) (p : Addr) : W'.frozen? p = W.frozen? p := World.frozen?_of_block (by rw [e])
theorem Box.of_heap {W W' : World} {b : Nat} {vs : List Value} (h : Box W b vs) (e : W'.heap = W.heap) : Box W' b vs :=
  ⟨fun i hi => (cell_heap e _).trans (h.cell i hi), fun i hi => (frozen_heap e _).trans (h.free i hi), by rw [e]; exact h.lt⟩
theorem Box.after {W W1 : World} {b : Nat} {vs : List Value} (hb : Below W.heap.size W W1) (h : Box W b vs) : Box W1 b vs :=
  ⟨fun i hi => (hb.cell h.lt).trans (h.cell i hi), fun i hi => (hb.frozen h.lt).trans (h.free i hi), Nat.lt_of_lt_of_le h.lt hb.size⟩
theorem Box.new (W : World) (c : Array Value) (t : TypeId) : Box (W.alloc (.cells c t)) W.heap.size c.toList := by
  refine ⟨fun i hi => ?_, fun i hi => ?_, by simp⟩
  · rw [World.cell?_alloc_new]
    have h2 : i < c.size := by simpa using hi
    rw [Array.getElem?_eq_getElem h2]
    simp
  · exact World.frozen?_alloc_new ..
theorem Box.alloc {W : World} {b : Nat} {vs : List Value} (h : Box W b vs) (o : Obj) : Box (W.alloc o) b vs :=
  Box.after ((Below.refl _ _).alloc (Nat.le_refl _) o) h
theorem Box.setCell {W : World} {b : Nat} {vs : List Value} (h : Box W b vs) (p : Addr) (v : Value) (hne : p.block ≠ b) : Box (W.setCell p v) b vs := by
  refine ⟨fun i hi => ?_, fun i hi => ?_, by simpa using h.lt⟩
  · rw [World.cell?_setCell_other _ _ _ _ (by intro e; apply hne; rw [e])]
    exact h.cell i hi
  · rw [World.frozen?_setCell]
    exact h.free i hi
theorem Box.drew {W : World} {b : Nat} {vs : List Value} (h : Box W b vs) : Box W.drew b vs := h.of_heap rfl
theorem Box.drewN {W : World} {b : Nat} {vs : List Value} (h : Box W b vs) (n : Nat) : Box (W.drewN n) b vs := h.of_heap rfl
theorem GW.of_heap {a : Addr} {w w' : World} (h : GW a w) (e : w'.heap = w.heap) : GW a w' :=
  ⟨(cell_heap e _).trans h.z4, (cell_heap e _).trans h.z0, by rw [e]; exact h.lt⟩
theorem GW.after {a : Addr} {w w' : World} (hb : Below w.heap.size w w') (h : GW a w) : GW a w' := h.below hb
theorem GW.alloc {a : Addr} {w : World} (h : GW a w) (o : Obj) : GW a (w.alloc o) := h.below ((Below.refl _ _).alloc (Nat.le_refl _) o)
theorem GW.drew {a : Addr} {w : World} (h : GW a w) : GW a w.drew := h.of_heap rfl
theorem GW.drewN {a : Addr} {w : World} (h : GW a w) (n : Nat) : GW a (w.drewN n) := h.of_heap rfl
end Go.Proofs.Qxb6618999aDoor
