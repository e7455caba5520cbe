import Derived.Test.Qxb6618999aDoorRows
import Derived.Test.Qxb6618999aDoorWA
import Derived.ProofKit
import Derived.OpenShut
import Derived.Laws.IdiomArrays
namespace Go.Proofs.Qxb6618999aDoor
open Go.ChangeShapes Go.WideShapes Go.ChangeAt Go.RowKit
theorem own : ownKnob Tryd.prog.godebug = none := by kernel_rfl
theorem cells5 : Tryd.prog.cellsOf 5 = 1 := by kernel_rfl
theorem cells22 : Tryd.prog.cellsOf 22 = 4 := by kernel_rfl
theorem list4 {α : Type} (l : List α) (h : (⟨l⟩ : Array α).size = 4) : ∃ a b c d, l = [a, b, c, d] := by
  match l, h with
  | [a, b, c, d], _ => exact ⟨a, b, c, d, rfl⟩
theorem open_arr4 {H : Type} {enc : TypeId × Value → H} {W : World} {base : Nat} {v : Value} {d : DataW H} {p : List MemPlace}
    (hv : Value.okWide Tryd.prog W .any base 22 v) (h : DataW.Trod enc Tryd.prog W 0 (fun _ => true) true 22 v d p) :
    ∃ x0 x1 x2 x3 : Int, v = .agg #[.int .u8 x0, .int .u8 x1, .int .u8 x2, .int .u8 x3] ∧ d = .agg [.lit (.int .u8 x0), .lit (.int .u8 x1), .lit (.int .u8 x2), .lit (.int .u8 x3)] ∧ p = [] ∧
      (Lit.int .u8 x0).wf = true ∧ (Lit.int .u8 x1).wf = true ∧ (Lit.int .u8 x2).wf = true ∧ (Lit.int .u8 x3).wf = true := by
  obtain ⟨cs, rfl, hsz, _⟩ : ∃ cs, v = .agg cs ∧ cs.size = Tryd.prog.cellsOf 22 ∧ Row.okWide Tryd.prog W .any base 22 cs := by
    simpa [Value.okWide, Tryd.underlying22] using hv
  rw [cells22] at hsz
  obtain ⟨l⟩ := cs
  obtain ⟨c0, c1, c2, c3, rfl⟩ := list4 l hsz
  obtain ⟨fuel, hf⟩ := h
  obtain ⟨y0, y1, y2, y3, m, hx, hy0, hy1, hy2, hy3⟩ := trod_array4 Tryd.underlying22 cells5 hf
  obtain ⟨x0, e0, rfl, w0⟩ := DataW.trod_int Tryd.underlying5 hy0
  obtain ⟨x1, e1, rfl, w1⟩ := DataW.trod_int Tryd.underlying5 hy1
  obtain ⟨x2, e2, rfl, w2⟩ := DataW.trod_int Tryd.underlying5 hy2
  obtain ⟨x3, e3, rfl, w3⟩ := DataW.trod_int Tryd.underlying5 hy3
  simp at e0 e1 e2 e3
  subst e0 e1 e2 e3
  simp only [Prod.mk.injEq] at hx
  obtain ⟨rfl, rfl⟩ := hx
  exact ⟨x0, x1, x2, x3, rfl, rfl, rfl, w0, w1, w2, w3⟩
theorem shut_arr4 {H : Type} {enc : TypeId × Value → H} (W : World) (sp : Nat → Bool) {x0 x1 x2 x3 : Int} (w0 : (Lit.int .u8 x0).wf = true) (w1 : (Lit.int .u8 x1).wf = true) (w2 : (Lit.int .u8 x2).wf = true) (w3 : (Lit.int .u8 x3).wf = true) :
    DataW.Trod enc Tryd.prog W 0 sp true 22 (.agg #[.int .u8 x0, .int .u8 x1, .int .u8 x2, .int .u8 x3]) (.agg [.lit (.int .u8 x0), .lit (.int .u8 x1), .lit (.int .u8 x2), .lit (.int .u8 x3)]) [] :=
  ⟨2, by simp [DataW.trod, Value.cells, Tryd.underlying22, Tryd.underlying5, cells22, cells5, w0, w1, w2, w3, show List.range 4 = [0, 1, 2, 3] from rfl]⟩
theorem u8_bounds {x : Int} (h : (Lit.int .u8 x).wf = true) : 0 ≤ x ∧ x < 256 := by
  have := bounds_u8 h
  omega
end Go.Proofs.Qxb6618999aDoor
