import Derived.Test.Qxb6618999aDoorBox
import Derived.Laws.IdiomCopy
namespace Go.Proofs.Qxb6618999aDoor
open Go Go.RowKit
theorem Box.new' (W : World) (c : Array Value) (t : TypeId) {b : Nat} {vs : List Value} (hb : b = W.heap.size) (hv : vs = c.toList) : Box (W.alloc (.cells c t)) b vs := by
  subst hb hv; exact Box.new W c t
theorem size_setCells (b : Nat) : ∀ (vs : List Value) (o : Nat) (w : World), (w.setCells b o vs).heap.size = w.heap.size
  | [], _, _ => rfl
  | v :: r, o, w => by rw [World.setCells, size_setCells b r]; simp
theorem below_setCells {B : Nat} {a : World} (b : Nat) (hb : B ≤ b) : ∀ (vs : List Value) (o : Nat) (w : World), Below B a w → Below B a (w.setCells b o vs)
  | [], _, _, h => h
  | v :: r, o, _, h => below_setCells b hb r (o + 1) _ (h.setCell hb v)
/-- A whole variable is stored anew. -/
theorem Box.stores {W : World} {b : Nat} {vs : List Value} (h : Box W b vs) (ws : List Value) (hl : ws.length = vs.length) : Box (W.setCells b 0 ws) b ws := by
  refine ⟨fun i hi => ?_, fun i hi => ?_, by rw [size_setCells]; exact h.lt⟩
  · have := World.cell?_setCells_in b ws 0 W (fun j hj => by rw [Nat.zero_add, h.cell j (by omega)]; rfl) i hi
    simpa using this
  · rw [World.frozen?_setCells]
    exact h.free i (by omega)
theorem Box.setCells {W : World} {b : Nat} {vs : List Value} (h : Box W b vs) (c : Nat) (hne : c ≠ b) : ∀ (ws : List Value) (o : Nat), Box (W.setCells c o ws) b vs
  | [], _ => h
  | v :: r, o => Box.setCells (h.setCell ⟨c, o, none⟩ v hne) c hne r (o + 1)
theorem Box.st4 {W : World} {b : Nat} {x0 x1 x2 x3 : Value} (h : Box W b [x0, x1, x2, x3]) (v0 v1 v2 v3 : Value) :
    Box ((((W.setCell ⟨b, 0, none⟩ v0).setCell ⟨b, 1, none⟩ v1).setCell ⟨b, 2, none⟩ v2).setCell ⟨b, 3, none⟩ v3) b [v0, v1, v2, v3] := Box.stores h [v0, v1, v2, v3] rfl
theorem Box.st9 {W : World} {b : Nat} {x0 x1 x2 x3 x4 x5 x6 x7 x8 : Value} (h : Box W b [x0, x1, x2, x3, x4, x5, x6, x7, x8]) (v0 v1 v2 v3 v4 v5 v6 v7 v8 : Value) :
    Box (((((((((W.setCell ⟨b, 0, none⟩ v0).setCell ⟨b, 1, none⟩ v1).setCell ⟨b, 2, none⟩ v2).setCell ⟨b, 3, none⟩ v3).setCell ⟨b, 4, none⟩ v4).setCell ⟨b, 5, none⟩ v5).setCell ⟨b, 6, none⟩ v6).setCell ⟨b, 7, none⟩ v7).setCell ⟨b, 8, none⟩ v8) b [v0, v1, v2, v3, v4, v5, v6, v7, v8] := Box.stores h [v0, v1, v2, v3, v4, v5, v6, v7, v8] rfl
theorem Box.st10 {W : World} {b : Nat} {x0 x1 x2 x3 x4 x5 x6 x7 x8 x9 : Value} (h : Box W b [x0, x1, x2, x3, x4, x5, x6, x7, x8, x9]) (v0 v1 v2 v3 v4 v5 v6 v7 v8 v9 : Value) :
    Box ((((((((((W.setCell ⟨b, 0, none⟩ v0).setCell ⟨b, 1, none⟩ v1).setCell ⟨b, 2, none⟩ v2).setCell ⟨b, 3, none⟩ v3).setCell ⟨b, 4, none⟩ v4).setCell ⟨b, 5, none⟩ v5).setCell ⟨b, 6, none⟩ v6).setCell ⟨b, 7, none⟩ v7).setCell ⟨b, 8, none⟩ v8).setCell ⟨b, 9, none⟩ v9) b [v0, v1, v2, v3, v4, v5, v6, v7, v8, v9] := Box.stores h [v0, v1, v2, v3, v4, v5, v6, v7, v8, v9] rfl
end Go.Proofs.Qxb6618999aDoor
