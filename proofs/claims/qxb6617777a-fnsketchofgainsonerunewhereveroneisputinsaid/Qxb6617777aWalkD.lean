import Derived.Test.Qxb6617777aWalkB
import Derived.Test.Qxb6617777aWalkC
namespace Go.Proofs.Qxb6617777a
open Go.RowKit

set_option maxHeartbeats 400000 in
theorem gains_long (s : ByteArray) (i r : Int) (hs : s.size ≤ maxLen) (h : ¬ s.size ≤ 1048576) (w : World) :
    Calls Try.prog 3 #[.string s, .int .i64 i, .int .i32 r] w fun e w' => e = .returned (.bool true) ∧ Below w.heap.size w w' := by
  have hb := decide_eq_false h
  go_enter Try.func3, Try.ntmps3
  go_wp2_with (go_at_call 5; refine (bytesC_any s hs i r _).mono ?_; rintro e w' ⟨rfl, rfl⟩; rw [hb])
  go_ret
  exact ⟨rfl, Below.refl _ _⟩
set_option maxHeartbeats 400000 in
theorem gains_out (s : ByteArray) (i r : Int) (hs : s.size ≤ maxLen) (h : s.size ≤ 1048576) (hi : i < 0 ∨ (s.size : Int) < i) (w : World) :
    Calls Try.prog 3 #[.string s, .int .i64 i, .int .i32 r] w fun e w' => e = .returned (.bool true) ∧ Below w.heap.size w w' := by
  have hb := decide_eq_true h
  rcases hi with hi | hi
  · go_enter Try.func3, Try.ntmps3
    go_wp2_with (go_at_call 5; refine (bytesC_any s hs i r _).mono ?_; rintro e w' ⟨rfl, rfl⟩; rw [hb])
    go_ret
    exact ⟨rfl, Below.refl _ _⟩
  · have hi2 : ¬ i < 0 := by omega
    go_enter Try.func3, Try.ntmps3
    go_wp2_with (go_at_call 5; refine (bytesC_any s hs i r _).mono ?_; rintro e w' ⟨rfl, rfl⟩; rw [hb])
    go_ret
    exact ⟨rfl, Below.refl _ _⟩
set_option maxHeartbeats 400000 in
theorem gains_cont (s : ByteArray) (i : Nat) (r : Int) (hs : s.size ≤ maxLen) (h : s.size ≤ 1048576) (hi : i < s.size) (hc : Plain.isC s[i] = true) (w : World) :
    Calls Try.prog 3 #[.string s, .int .i64 i, .int .i32 r] w fun e w' => e = .returned (.bool true) ∧ Below w.heap.size w w' := by
  have hb := decide_eq_true h
  go_enter Try.func3, Try.ntmps3
  go_wp2_with (first | (go_at_call 5; refine (bytesC_any s hs i r _).mono ?_; rintro e w' ⟨rfl, rfl⟩; rw [hb]) | (go_at_call 6; refine (isCont_any _ _).mono ?_; rintro e w' ⟨rfl, rfl⟩; rw [hc]))
  go_ret
  exact ⟨rfl, Below.refl _ _⟩

/-- 'string(buf)' of a slice that the call owns. -/
theorem conv_own (w : World) (base : Nat) (v : Value) (n : Nat) (l : List UInt8) (hown : w.ownsRow base 5 1 v n (Lib.byteCells l)) (hl : l ≠ []) :
    (convert 26 9 v).run Try.prog w = .ok (.string ⟨l.toArray⟩) w := by
  have hn : l.length = n := by simpa [Lib.byteCells] using hown.1
  have hpos : 0 < l.length := List.length_pos_iff.2 hl
  rcases hown.2 with ⟨_, h0⟩ | ⟨g, cap, cur, rfl, hb, hg, hnc, hcm, hcs, htake⟩
  · omega
  · have hcells := hown.cells (g := g) rfl
    subst hn
    refine run_convert_bytes_back w 26 9 5 ⟨g, 0, none⟩ cap l Try.underlying26 Try.underlying5 Try.underlying9 (fun j hj => hcells j _ ?_)
    simp [Lib.byteCells, List.getElem?_eq_getElem hj]

theorem finalG (s : ByteArray) (i : Nat) (hi : i ≤ s.size) (hc : ∀ h : i < s.size, Plain.isC s[i] = false) (c : Nat) (hsc : Plain.scalar c) (n b n2 b2 : Nat)
    (hn : n = (Plain.rs s.data.toList).length) (hb : b = Plain.bitsOf (Plain.rs s.data.toList))
    (hn2 : n2 = (Plain.rs (s.data.toList.take i ++ Plain.enc c ++ s.data.toList.drop i)).length) (hb2 : b2 = Plain.bitsOf (Plain.rs (s.data.toList.take i ++ Plain.enc c ++ s.data.toList.drop i))) :
    n2 = n + 1 ∧ bits .or .u64 (b : Int) (IntKind.u64.wrap (2 ^ (c % 64))) = (b2 : Int) ∧ (s.size = 0 → n = 0 ∧ b = 0) := by
  have ho := opens_of s i hi hc
  have hsp := Plain.rs_append _ (s.data.toList.take i) (s.data.toList.drop i) (Nat.le_refl _) ho
  rw [List.take_append_drop] at hsp
  rw [Plain.rs_put _ _ _ hsc ho] at hn2 hb2
  refine ⟨?_, ?_, ?_⟩
  · rw [hn2, hn, hsp]; simp; omega
  · rw [hb, or_bit, hb2, hsp]
    simp only [Plain.bitsOf_append]
    congr 1
    rw [Nat.or_assoc, Nat.or_assoc, Nat.or_comm (Plain.bitsOf (Plain.rs (s.data.toList.drop i)))]
  · intro h0
    have : s.data.toList = [] := List.length_eq_zero_iff.1 h0
    rw [hn, hb, this]
    simp [Plain.rs_nil, Plain.bitsOf]

set_option maxRecDepth 100000 in
set_option maxHeartbeats 1000000 in
theorem gains_main (s : ByteArray) (i : Nat) (r : Int) (hr1 : -2147483648 ≤ r) (hr2 : r ≤ 2147483647) (hs : s.size ≤ maxLen) (h : s.size ≤ 1048576) (hi0 : i ≤ s.size) (hc0 : ∀ h : i < s.size, Plain.isC s[i] = false) (w : World) :
    Calls Try.prog 3 #[.string s, .int .i64 i, .int .i32 r] w fun e w' => e = .returned (.bool true) ∧ Below w.heap.size w w' := by
  have hb := decide_eq_true h
  have hlt := Plain.canon_lt r
  have hsc := Plain.canon_scalar r
  have hcan : Hid (∀ w, Calls Try.prog 7 #[.int .i32 r] w fun e w' => e = .returned (.int .u32 (Plain.canon r)) ∧ w' = w) := canon_any r hr1 hr2
  generalize Plain.canon r = c at *
  have hsl : s.data.toList.length = s.size := rfl
  have Hz1 : Hid ((s.extract 0 i).size = i) := by show _ = _; simp; omega
  have Hz2 : Hid ((s.extract i s.size).size = s.size - i) := by show _ = _; simp
  have Hl1 : Hid (Lib.strCells (s.extract 0 i) = Lib.byteCells (s.data.toList.take i)) := by
    show _ = _
    rw [Lib.strCells_eq, extract_list]; simp
  have Hl2 : Hid (Lib.strCells (s.extract i s.size) = Lib.byteCells (s.data.toList.drop i)) := by
    show _ = _
    rw [Lib.strCells_eq, extract_list, List.take_of_length_le (by rw [List.length_drop]; exact Nat.le_refl _)]
  have hel := Plain.enc_length c
  have hene := Plain.enc_ne c
  have happ : Hid (∀ (v : Value) (w1 : World), w1.ownsRow w.heap.size 5 1 v (0 + (s.extract 0 i).size) ([] ++ Lib.strCells (s.extract 0 i)) → w.heap.size ≤ w1.heap.size →
      Calls Try.prog 8 #[v, .int .u32 c] w1 fun e w' => ∃ v', e = .returned v' ∧ w'.ownsRow w.heap.size 5 1 v' (i + (Plain.enc c).length) (Lib.byteCells (s.data.toList.take i ++ Plain.enc c)) ∧ Below w.heap.size w1 w') := by
    intro v w1 ho hz
    rw [Hl1.out, Hz1.out] at ho
    simp only [Nat.zero_add, List.nil_append] at ho
    exact appendRune_any w.heap.size c hlt v i _ w1 ho (by omega) hz
  have hconv : Hid (∀ (v : Value) (w1 : World), w1.ownsRow w.heap.size 5 1 v (i + (Plain.enc c).length + (s.extract i s.size).size) (Lib.byteCells (s.data.toList.take i ++ Plain.enc c) ++ Lib.strCells (s.extract i s.size)) →
      (convert 26 9 v).run Try.prog w1 = .ok (.string ⟨(s.data.toList.take i ++ Plain.enc c ++ s.data.toList.drop i).toArray⟩) w1) := by
    intro v w1 ho
    rw [Hl2.out, ← Lib.byteCells_append] at ho
    exact conv_own w1 _ v _ _ ho (by simp [hene])
  have hfin : Hid (∀ n b n2 b2 : Nat, n = (Plain.rs s.data.toList).length → b = Plain.bitsOf (Plain.rs s.data.toList) → n2 = (Plain.rs (s.data.toList.take i ++ Plain.enc c ++ s.data.toList.drop i)).length → b2 = Plain.bitsOf (Plain.rs (s.data.toList.take i ++ Plain.enc c ++ s.data.toList.drop i)) →
      n2 = n + 1 ∧ bits .or .u64 (b : Int) (IntKind.u64.wrap (2 ^ (c % 64))) = (b2 : Int) ∧ (s.size = 0 → n = 0 ∧ b = 0)) := fun n b n2 b2 => finalG s i hi0 hc0 c hsc n b n2 b2
  have htl : (s.data.toList.take i ++ Plain.enc c ++ s.data.toList.drop i).length ≤ 2000000 := by
    simp
    omega
  generalize htt : (s.data.toList.take i ++ Plain.enc c ++ s.data.toList.drop i) = tt at *
  have hts : (ByteArray.mk tt.toArray).size ≤ 2000000 := by
    show tt.toArray.size ≤ _
    simpa using htl
  clear htt htl hene
  have htle : Hid (s.size = 0 → s.toList = []) := by
    intro h0
    rw [ByteArray.toList_eq]
    exact List.length_eq_zero_iff.1 h0
  have htls : Hid (s.toList = [] → s.size = 0) := by
    intro h0
    rw [ByteArray.toList_eq] at h0
    exact congrArg List.length h0
  obtain ⟨ti, hti, hy0, hy1, hy2⟩ := info_parts Try.info5
  by_cases hi : i < s.size
  · have hc := hc0 hi
    go_enter Try.func3, Try.ntmps3
    go_wp2_with (first | (go_at_call 5; refine (bytesC_any s hs i r _).mono ?_; rintro e w2 ⟨rfl, h2⟩; subst w2; rw [hb]) | (go_at_call 6; refine (isCont_any _ _).mono ?_; rintro e w2 ⟨rfl, h2⟩; subst w2; rw [hc]) | (go_at_call 7; refine (hcan.out _).mono ?_; rintro e w2 ⟨rfl, h2⟩; subst w2) | (at_make; refine wpList_make_own _ rfl _ _ 26 rfl w.heap.size 5 ti (.int .u8 0) 1 Try.underlying26 hti hy0 hy1 _ _ _ (s.size + 4) rfl rfl (by omega) (by rw [hy2]; omega) (by unfold maxLen; omega) (Nat.le_refl _) ?_; intro w1 hown1 hg1; have hB1 := (Below.refl w.heap.size w).grown hg1 (Nat.le_refl _) (fun k hk => by cases hk); clear hg1) | (at_builtin; refine Lib.wpList_append_own_string _ rfl _ _ 26 9 rfl w.heap.size 5 ti Try.underlying26 Try.underlying9 hti hy0 hy1 hy2 _ _ _ rfl hown1 (s.extract 0 i) rfl (by rw [Hz1.out]; unfold maxLen; omega) (by rw [Hz1.out]; omega) hB1.size ?_; intro v2 w2 hown2 hg2 hnil2; have hB2 := hB1.grown hg2 hB1.size (fun k hk => (hown1.lt k hk).1); clear hown1 hg2 hnil2) | (go_at_call 8; refine (happ.out v2 w2 hown2 hB2.size).mono ?_; rintro e w3 ⟨v3, rfl, hown3, hB3⟩; replace hB3 := hB2.trans hB3; clear hown2) | (at_builtin; refine Lib.wpList_append_own_string _ rfl _ _ 26 9 rfl w.heap.size 5 ti Try.underlying26 Try.underlying9 hti hy0 hy1 hy2 v3 _ _ rfl hown3 (s.extract i s.size) rfl (by rw [Hz2.out]; unfold maxLen; omega) (by rw [Hz2.out]; omega) hB3.size ?_; intro v4 w4 hown4 hg4 hnil4; have hB4 := hB3.grown hg4 hB3.size (fun k hk => (hown3.lt k hk).1); have hcv := hconv.out v4 w4 hown4; clear hown3 hg4 hnil4))
    refine (zzSketch_hid s (by omega) _).mono ?_
    rintro e w5 ⟨n, b, rfl, hn, hbb, hnle, hB5⟩
    go_wp2_with fail
    refine (zzSketch_hid _ hts _).mono ?_
    rintro e w6 ⟨n2, b2, rfl, hn2, hbb2, hnle2, hB6⟩
    have hB56 : Below w.heap.size w w6 := hB4.trans ((hB5.mono hB4.size).trans (hB6.mono (Nat.le_trans hB4.size hB5.size)))
    obtain ⟨q1, q2, q3⟩ := hfin.out n b n2 b2 hn.out hbb.out hn2.out hbb2.out
    clear hn hbb hn2 hbb2 hfin hown4 hcv
    subst q1
    clear q3
    have h0 : ¬ s.toList = [] := fun hse => by have := htls.out hse; omega
    go_wp2
    go_ret
    exact ⟨rfl, hB56⟩
  · go_enter Try.func3, Try.ntmps3
    go_wp2_with (first | (go_at_call 5; refine (bytesC_any s hs i r _).mono ?_; rintro e w2 ⟨rfl, h2⟩; subst w2; rw [hb]) | (go_at_call 7; refine (hcan.out _).mono ?_; rintro e w2 ⟨rfl, h2⟩; subst w2) | (at_make; refine wpList_make_own _ rfl _ _ 26 rfl w.heap.size 5 ti (.int .u8 0) 1 Try.underlying26 hti hy0 hy1 _ _ _ (s.size + 4) rfl rfl (by omega) (by rw [hy2]; omega) (by unfold maxLen; omega) (Nat.le_refl _) ?_; intro w1 hown1 hg1; have hB1 := (Below.refl w.heap.size w).grown hg1 (Nat.le_refl _) (fun k hk => by cases hk); clear hg1) | (at_builtin; refine Lib.wpList_append_own_string _ rfl _ _ 26 9 rfl w.heap.size 5 ti Try.underlying26 Try.underlying9 hti hy0 hy1 hy2 _ _ _ rfl hown1 (s.extract 0 i) rfl (by rw [Hz1.out]; unfold maxLen; omega) (by rw [Hz1.out]; omega) hB1.size ?_; intro v2 w2 hown2 hg2 hnil2; have hB2 := hB1.grown hg2 hB1.size (fun k hk => (hown1.lt k hk).1); clear hown1 hg2 hnil2) | (go_at_call 8; refine (happ.out v2 w2 hown2 hB2.size).mono ?_; rintro e w3 ⟨v3, rfl, hown3, hB3⟩; replace hB3 := hB2.trans hB3; clear hown2) | (at_builtin; refine Lib.wpList_append_own_string _ rfl _ _ 26 9 rfl w.heap.size 5 ti Try.underlying26 Try.underlying9 hti hy0 hy1 hy2 v3 _ _ rfl hown3 (s.extract i s.size) rfl (by rw [Hz2.out]; unfold maxLen; omega) (by rw [Hz2.out]; omega) hB3.size ?_; intro v4 w4 hown4 hg4 hnil4; have hB4 := hB3.grown hg4 hB3.size (fun k hk => (hown3.lt k hk).1); have hcv := hconv.out v4 w4 hown4; clear hown3 hg4 hnil4))
    refine (zzSketch_hid s (by omega) _).mono ?_
    rintro e w5 ⟨n, b, rfl, hn, hbb, hnle, hB5⟩
    go_wp2_with fail
    refine (zzSketch_hid _ hts _).mono ?_
    rintro e w6 ⟨n2, b2, rfl, hn2, hbb2, hnle2, hB6⟩
    have hB56 : Below w.heap.size w w6 := hB4.trans ((hB5.mono hB4.size).trans (hB6.mono (Nat.le_trans hB4.size hB5.size)))
    obtain ⟨q1, q2, q3⟩ := hfin.out n b n2 b2 hn.out hbb.out hn2.out hbb2.out
    clear hn hbb hn2 hbb2 hfin hown4 hcv
    subst q1
    by_cases h0 : s.size = 0
    · obtain ⟨rfl, rfl⟩ := q3 h0
      have hsb := htle.out h0
      clear q3
      rw [Int.natCast_zero] at q2
      go_wp2
      go_ret
      exact ⟨rfl, hB56⟩
    · clear q3
      have hsb : ¬ s.toList = [] := fun hse => h0 (htls.out hse)
      go_wp2
      go_ret
      exact ⟨rfl, hB56⟩
end Go.Proofs.Qxb6617777a
