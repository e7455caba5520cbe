import Derived.Test.Qxb6618889aRows
import Derived.Test.Qxb6618889aWalkG
import Derived.WalkKit
import Derived.ProofKit
import Derived.OpenShut
import Derived.ShutString
import Derived.ChangeOld
import Derived.Below
namespace Go.Proofs.Qxb6618889a.fnSizeRSACountsModulusBytesFrom2048Bits
open Go.ChangeShapes Go.WideShapes Go.ChangeAt Go.RowKit
open Go.ChangeMaps (open_string shut_string)
set_option linter.unusedVariables false

theorem own : ownKnob Try.prog.godebug = none := by kernel_rfl
theorem add_spot (x : Addr) (h : (x.add 0).spot = none) : x.spot = none := by
  unfold Addr.add at h
  split at h <;> simp_all
theorem laidOut : laidOutB Try.prog = true := by kernel_rfl

/-- WHAT THE WALK IS TOLD OF A SLICE OF INTEGERS THAT CAME IN: it is nil; or it leads to a row of 'cap' cells, the numbers 'zs' (the first 'len' are its elements, the rest its spare room), each fitting its kind. -/
def IsRow (k : IntKind) (w : World) (a : Option Addr) (len cap : Nat) (zs : List Int) : Prop :=
  (a = none ∧ len = 0 ∧ cap = 0 ∧ zs = []) ∨
  ∃ x, a = some x ∧ len ≤ cap ∧ cap ≤ maxLen ∧ zs.length = cap ∧ (∀ i, i < zs.length → w.cell? (x.add i) = some (.int k (zs.getD i 0))) ∧ ∀ n ∈ zs, (Lit.int k n).wf = true

/-! ### STEP 1: THE WALK: the Go text returns true, AND WRITES NOTHING THAT WAS THERE: 'Below w.heap.size w w'' (Derived/Below.lean: '.refl', '.alloc', '.drew', '.setCell' at a new block, '.trans'). Open each 'IsRow' by 'rcases' AHEAD of 'go_enter'; part every test ahead of the walk. -/
theorem walk (a0 : Option Addr) (len0 cap0 : Nat) (z0 : List Int) (a1 : Int) (w : World) (w0 : IsRow .u8 w a0 len0 cap0 z0) (w1 : (Lit.int .u8 a1).wf = true) :
    Calls Try.prog 3 #[.slice a0 len0 cap0, .int .u8 a1] w fun e w' => e = .returned (.bool true) ∧ Below w.heap.size w w' := by
  simp only [Lit.wf, Bool.and_eq_true, decide_eq_true_eq] at w1
  have hx1 : 0 ≤ a1 := by have := w1.1; simpa [IntKind.min, IntKind.bits, IntKind.signed] using this
  have hx2 : a1 ≤ 255 := by have := w1.2; simpa [IntKind.max, IntKind.bits, IntKind.signed] using this
  have hlen : len0 ≤ maxLen := by
    rcases w0 with ⟨_, rfl, _, _⟩ | ⟨_, _, h1, h2, _⟩
    · exact Nat.zero_le _
    · exact Nat.le_trans h1 h2
  by_cases h : len0 ≤ 65536
  · have hb : (UInt8.ofNat a1.toNat).toNat = a1.toNat := by simp; omega
    have hbi : a1 = ((UInt8.ofNat a1.toNat).toNat : Int) := by rw [hb]; omega
    rw [hbi]
    refine law_main a0 len0 cap0 ((z0.take len0).map (fun z => UInt8.ofNat z.toNat)) _ h w ?_
    rcases w0 with ⟨rfl, rfl, rfl, rfl⟩ | ⟨x, rfl, h1, h2, h3, h4, h5⟩
    · exact .inl ⟨rfl, rfl, fun _ => rfl⟩
    · by_cases h0 : len0 = 0
      · subst h0
        exact .inl ⟨rfl, rfl, fun h => by cases h⟩
      · have hc0 := h4 0 (by omega)
        have hsp := World.cell?_spot hc0
        obtain ⟨g, o, sp⟩ := x
        have hsp' : sp = none := by
          exact add_spot ⟨g, o, sp⟩ hsp
        subst hsp'
        have hll : ((z0.take len0).map (fun z => UInt8.ofNat z.toNat)).length = len0 := by rw [List.length_map, List.length_take]; omega
        refine .inr ⟨g, o, rfl, hll, by omega, h1, fun j hj => ?_⟩
        rw [hll] at hj
        have hj3 : j < z0.length := by omega
        have hcell := h4 j hj3
        rw [Addr.add_lit] at hcell
        rw [hcell]
        have hmem : z0[j] ∈ z0 := List.getElem_mem hj3
        have hw := h5 _ hmem
        simp only [Lit.wf, Bool.and_eq_true, decide_eq_true_eq] at hw
        have hz1 : 0 ≤ z0[j] := by have := hw.1; simpa [IntKind.min, IntKind.bits, IntKind.signed] using this
        have hz2 : z0[j] ≤ 255 := by have := hw.2; simpa [IntKind.max, IntKind.bits, IntKind.signed] using this
        have e1 : z0.getD j 0 = z0[j] := by rw [List.getD_eq_getElem?_getD, List.getElem?_eq_getElem hj3]; rfl
        have e2 : ((z0.take len0).map (fun z => UInt8.ofNat z.toNat)).getD j 0 = UInt8.ofNat z0[j].toNat := by
          rw [List.getD_eq_getElem?_getD, List.getElem?_map, List.getElem?_take, if_pos hj, List.getElem?_eq_getElem hj3]; rfl
        rw [e1, e2]
        have e3 : (UInt8.ofNat z0[j].toNat).toNat = z0[j].toNat := by simp; omega
        rw [e3]
        congr 2
        omega
  · exact law_long a0 len0 cap0 a1 hlen h w

/-! ### THE ROW's STEP: WRITTEN OUT: LEAVE IT -/
set_option maxRecDepth 100000 in
theorem lifted (os : Os) (started : os.Started) (H : Type) (enc : TypeId × Value → H) :
    ReturnsInHanded {} Try.checked os 3 .any (Rows.fnSizeRSACountsModulusBytesFrom2048BitsSpec.pre6 enc Try.prog Try.f3 Rows.fnSizeRSACountsModulusBytesFrom2048BitsRow.domain false) (Rows.fnSizeRSACountsModulusBytesFrom2048BitsSpec.post enc Try.prog Try.f3 false true false false) := by
  refine returnsInHanded_of_change (C := Try.checked) own started (by kernel_rfl) Try.func3
    (ChangeSpec.witness6 (enc := enc) (C := Try.checked) false ⟨#[], #[.slice none 0 0, .int .u8 0], []⟩ 8 (by kernel_rfl) (by kernel_rfl) (by kernel_rfl) (by kernel_rfl)) ?_
  intro W base args ds gs before hval0 hW hcnd _
  have hval : ∀ (j : Nat) t v, Try.f3.params[j]? = some t → args[j]? = some v → Value.okWide Try.prog W .any base t v := hval0
  have hW' := hW
  obtain ⟨p, q, hA0, hV, rfl, hfz, hnd⟩ := hW
  have hA : DataW.TrodAll enc Try.prog W 0 (fun _ => true) true Try.f3.params.toList args.toList ds p := hA0
  rw [Try.params3] at hA hval
  obtain ⟨v0, vs0, d0, ds0, p0, q0, hargs, rfl, rfl, h0, r0⟩ := trodAll_cons hA
  obtain ⟨v1, vs1, d1, ds1, p1, q1, rfl, rfl, rfl, h1, r1⟩ := trodAll_cons r0
  obtain ⟨rfl, rfl, rfl⟩ := trodAll_nil r1
  obtain rfl : args = #[v0, v1] := by cases args; simp_all
  obtain ⟨rfl, rfl⟩ := trodVars_none hV
  obtain ⟨a0, len0, cap0, rfl⟩ := okWide_slice Try.underlying22 (hval 0 22 v0 rfl rfl)
  have k0 := h0
  have lt0 : ∀ x ∈ p0, x.block < W.heap.size := by obtain ⟨m, hm⟩ := k0; exact DataW.trod_lt m _ _ _ hm
  obtain ⟨z0, w0⟩ : ∃ zs, IsRow .u8 W a0 len0 cap0 zs := by
    obtain ⟨fuel, hf⟩ := h0
    rcases open_ints Try.underlying22 Try.underlying5 (by kernel_rfl) hf with ⟨hcs, _⟩ | ⟨x, l, c, zs, hcs, _, hl, hm, hz, _, hcell, hwz⟩
    · simp [Value.cells] at hcs
      obtain ⟨rfl, rfl, rfl⟩ := hcs
      exact ⟨[], .inl ⟨rfl, rfl, rfl, rfl⟩⟩
    · simp [Value.cells] at hcs
      obtain ⟨rfl, rfl, rfl⟩ := hcs
      exact ⟨zs, .inr ⟨_, rfl, hl, hm, by simpa using hz, hcell, hwz⟩⟩
  obtain ⟨a1, rfl, rfl, rfl, w1⟩ := open_int Try.underlying5 (hval 1 5 v1 rfl rfl) h1
  clear hA0 hval0
  refine (walk a0 len0 cap0 z0 a1 W w0 w1).mono fun e W' ⟨he, bel⟩ => ?_
  subst he
  exact ⟨_, rfl, _, _, _, [], _, [], hW', trodAll_mk1 (shut_bool Try.underlying4 _), (trodAll_cons_mk (Below.trod laidOut (by kernel_rfl) (of_decide_eq_true (by kernel_rfl)) k0 bel lt0) (trodAll_cons_mk (shut_int Try.underlying5 w1) trodAll_mk0)), rfl, bel.frame _, fun h => by cases h⟩

theorem over : Rows.fnSizeRSACountsModulusBytesFrom2048BitsRow.holds Try.pinned (OpenSpec.ofChange Rows.fnSizeRSACountsModulusBytesFrom2048BitsSpec) :=
  OpenClaim.holds_of_wide 3 Try.f3 rfl rfl rfl rfl rfl rfl rfl ⟨rfl, rfl, rfl, rfl, rfl⟩ rfl rfl rfl rfl rfl (by kernel_rfl) Try.func3 (by kernel_rfl)
    (of_decide_eq_true (by kernel_rfl)) (by unfold Func.isWrapper; first | (rw [if_pos (by decide +kernel)]; kernel_rfl) | (rw [if_neg (by decide +kernel)]; exact ⟨rfl, rfl⟩))
    (fun os started H enc _ => lifted os started H enc)

/-- ████ THE STATEMENT ████ -/
theorem proved : Rows.FnSizeRSACountsModulusBytesFrom2048BitsSaid := over
end Go.Proofs.Qxb6618889a.fnSizeRSACountsModulusBytesFrom2048Bits
namespace Go.Proofs.Qxb6618889a
theorem FnSizeRSACountsModulusBytesFrom2048BitsProved : Rows.FnSizeRSACountsModulusBytesFrom2048BitsSaid := fnSizeRSACountsModulusBytesFrom2048Bits.proved
#print axioms FnSizeRSACountsModulusBytesFrom2048BitsProved
end Go.Proofs.Qxb6618889a
