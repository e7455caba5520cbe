import Derived.Test.Qxb6618968aRows
import Derived.Test.Qxb6618968aWalkL
import Derived.WalkKit
import Derived.ProofKit
import Derived.OpenShut
import Derived.ShutString
import Derived.ChangeOld
import Derived.Below
import Derived.SliceStrings
namespace Go.Proofs.Qxb6618968a.fnLeafTextAgreesWithCheck
open Go.ChangeShapes Go.WideShapes Go.ChangeAt Go.RowKit
open Go.ChangeMaps (open_string shut_string)
set_option linter.unusedVariables false

theorem own : ownKnob Try.prog.godebug = none := by kernel_rfl
theorem laidOut : laidOutB Try.prog = true := by kernel_rfl
theorem add_spot (x : Addr) (h : (x.add 0).spot = none) : x.spot = none := by
  unfold Addr.add at h
  split at h <;> simp_all

/-- A slice of strings that came in, as the walk is told of it. -/
theorem strs_of {W : World} {x : Addr} {len cap : Nat} {ss : List ByteArray} (hl : len ≤ cap) (hlen : ss.length = cap) (hcell : ∀ i, i < ss.length → W.cell? (x.add i) = some (.string (ss.getD i ByteArray.empty))) : IsStrs W (some x) len cap (ss.take len) := by
  by_cases h0 : len = 0
  · subst h0
    exact .inl ⟨rfl, rfl, fun h => by cases h⟩
  · have hsp := World.cell?_spot (hcell 0 (by omega))
    obtain ⟨g, o, sp⟩ := x
    have hsp' : sp = none := add_spot ⟨g, o, sp⟩ hsp
    subst hsp'
    have hll : (ss.take len).length = len := by rw [List.length_take]; omega
    refine .inr ⟨g, o, rfl, hll, by omega, hl, fun j hj => ?_⟩
    rw [hll] at hj
    have := hcell j (by omega)
    rw [Addr.add_lit] at this
    rw [this]
    congr 2
    rw [List.getD_eq_getElem?_getD, List.getD_eq_getElem?_getD, List.getElem?_take, if_pos hj]

set_option maxRecDepth 100000 in
theorem lifted (os : Os) (started : os.Started) (H : Type) (enc : TypeId × Value → H) :
    ReturnsInHanded {} Try.checked os 3 .any (Rows.fnLeafTextAgreesWithCheckSpec.pre6 enc Try.prog Try.f3 Rows.fnLeafTextAgreesWithCheckRow.domain false) (Rows.fnLeafTextAgreesWithCheckSpec.post enc Try.prog Try.f3 false true false false) := by
  refine returnsInHanded_of_change (C := Try.checked) own started (by kernel_rfl) Try.func3
    (ChangeSpec.witness6 (enc := enc) (C := Try.checked) false ⟨#[], #[.slice none 0 0, .string ByteArray.empty], []⟩ 8 (by kernel_rfl) (by kernel_rfl) (by kernel_rfl) (by kernel_rfl)) ?_
  intro W base args ds gs before hval0 hW hcnd _
  have hval : ∀ (j : Nat) t v, Try.f3.params[j]? = some t → args[j]? = some v → Value.okWide Try.prog W .any base t v := hval0
  have hW' := hW
  obtain ⟨p, q, hA0, hV, rfl, hfz, hnd⟩ := hW
  have hA : DataW.TrodAll enc Try.prog W 0 (fun _ => true) true Try.f3.params.toList args.toList ds p := hA0
  rw [Try.params3] at hA hval
  obtain ⟨v0, vs0, d0, ds0, p0, q0, hargs, rfl, rfl, h0, r0⟩ := trodAll_cons hA
  obtain ⟨v1, vs1, d1, ds1, p1, q1, rfl, rfl, rfl, h1, r1⟩ := trodAll_cons r0
  obtain ⟨rfl, rfl, rfl⟩ := trodAll_nil r1
  obtain rfl : args = #[v0, v1] := by cases args; simp_all
  obtain ⟨rfl, rfl⟩ := trodVars_none hV
  obtain ⟨a0, len0, cap0, rfl⟩ := okWide_slice Try.underlying22 (hval 0 22 v0 rfl rfl)
  have k0 := h0
  have lt0 : ∀ x ∈ p0, x.block < W.heap.size := by obtain ⟨m, hm⟩ := k0; exact DataW.trod_lt m _ _ _ hm
  obtain ⟨l0, w0, len0m, size0⟩ : ∃ l, IsStrs W a0 len0 cap0 l ∧ len0 ≤ maxLen ∧ ∀ s ∈ l, s.size ≤ maxLen := by
    obtain ⟨fuel, hf⟩ := h0
    rcases open_strings Try.underlying22 Try.underlying9 (by kernel_rfl) hf with ⟨hcs, _⟩ | ⟨x, l, c, ss, hcs, _, hl, hm, hz, _, hcell, hwz⟩
    · simp [Value.cells] at hcs
      obtain ⟨rfl, rfl, rfl⟩ := hcs
      exact ⟨[], .inl ⟨rfl, rfl, fun _ => rfl⟩, Nat.zero_le _, fun s hs => by cases hs⟩
    · simp [Value.cells] at hcs
      obtain ⟨rfl, rfl, rfl⟩ := hcs
      exact ⟨ss.take _, strs_of hl (by simpa using hz) hcell, Nat.le_trans hl hm, fun s hs => hwz s (List.mem_of_mem_take hs)⟩
  obtain ⟨a1, rfl, rfl, rfl, w1⟩ := open_string Try.underlying9 (hval 1 9 v1 rfl rfl) h1
  clear hA0 hval0
  refine (agrees_law a0 len0 cap0 l0 a1 W w0 len0m size0 w1).mono fun e W' ⟨he, bel⟩ => ?_
  subst he
  exact ⟨_, rfl, _, _, _, [], _, [], hW', trodAll_mk1 (shut_bool Try.underlying4 _), (trodAll_cons_mk (Below.trod laidOut (by kernel_rfl) (of_decide_eq_true (by kernel_rfl)) k0 bel lt0) (trodAll_cons_mk (shut_string Try.underlying9 w1) trodAll_mk0)), rfl, bel.frame _, fun h => by cases h⟩

theorem over : Rows.fnLeafTextAgreesWithCheckRow.holds Try.pinned (OpenSpec.ofChange Rows.fnLeafTextAgreesWithCheckSpec) :=
  OpenClaim.holds_of_wide 3 Try.f3 rfl rfl rfl rfl rfl rfl rfl ⟨rfl, rfl, rfl, rfl, rfl⟩ rfl rfl rfl rfl rfl (by kernel_rfl) Try.func3 (by kernel_rfl)
    (of_decide_eq_true (by kernel_rfl)) (by unfold Func.isWrapper; first | (rw [if_pos (by decide +kernel)]; kernel_rfl) | (rw [if_neg (by decide +kernel)]; exact ⟨rfl, rfl⟩))
    (fun os started H enc _ => lifted os started H enc)

theorem proved : Rows.FnLeafTextAgreesWithCheckSaid := over
end Go.Proofs.Qxb6618968a.fnLeafTextAgreesWithCheck
namespace Go.Proofs.Qxb6618968a
theorem FnLeafTextAgreesWithCheckProved : Rows.FnLeafTextAgreesWithCheckSaid := fnLeafTextAgreesWithCheck.proved
#print axioms FnLeafTextAgreesWithCheckProved
end Go.Proofs.Qxb6618968a
