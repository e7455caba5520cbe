import Derived.Test.Qxb6618889aWalkF
namespace Go.Proofs.Qxb6618889a
open Go.RowKit

set_option maxRecDepth 100000 in
set_option maxHeartbeats 400000 in
theorem law_long (a : Option Addr) (n c : Nat) (x : Int) (hn : n ≤ maxLen) (h : ¬ n ≤ 65536) (w : World) :
    Calls Try.prog 3 #[.slice a n c, .int .u8 x] w fun e w' => e = .returned (.bool true) ∧ Below w.heap.size w w' := by
  by_cases h2 : n ≤ 1048576
  · have hd := decide_eq_true h2
    have h' : (65536 : Int) < n := by omega
    have h2' : (n : Int) ≤ 1048576 := by omega
    clear h h2
    go_enter Try.func3, Try.ntmps3
    go_wp2_with (go_at_call 4; refine (bytes_any a n c x hn _).mono ?_; rintro e w2 ⟨rfl, h2⟩; subst w2; rw [hd])
    go_ret
    exact ⟨rfl, Below.refl _ _⟩
  · have hd := decide_eq_false h2
    clear h h2
    go_enter Try.func3, Try.ntmps3
    go_wp2_with (go_at_call 4; refine (bytes_any a n c x hn _).mono ?_; rintro e w2 ⟨rfl, h2⟩; subst w2; rw [hd])
    go_ret
    exact ⟨rfl, Below.refl _ _⟩

theorem IsBytes.len {w : World} {a : Option Addr} {n c : Nat} {l : List UInt8} (h : IsBytes w a n c l) : l.length = n := by
  rcases h with ⟨rfl, rfl, -⟩ | ⟨_, _, _, h, _⟩
  · rfl
  · exact h
theorem IsBytes.none {w : World} {n c : Nat} {l : List UInt8} (h : IsBytes w none n c l) : n = 0 ∧ c = 0 := by
  rcases h with ⟨h1, _, h2⟩ | ⟨_, _, h, _⟩
  · exact ⟨h1, h2 rfl⟩
  · cases h
theorem IsBytes.cells {w : World} {a : Option Addr} {n c : Nat} {l : List UInt8} (h : IsBytes w a n c l) (ad : Addr) (ha : a = some ad) : ∀ j u, (Lib.byteCells l)[j]? = some u → w.cell? (ad.add j) = some u := by
  intro j u hj
  have hj' : j < l.length := by
    have := (List.getElem?_eq_some_iff.1 hj).1
    simpa [Lib.byteCells] using this
  rcases h with ⟨_, rfl, -⟩ | ⟨g, o, h1, h2, h3, h4, h5⟩
  · simp at hj'
  · subst ha
    injection h1 with h1
    subst h1
    rw [Addr.add_lit, h5 j hj']
    simp [Lib.byteCells, List.getElem?_eq_getElem hj'] at hj
    rw [← hj]
    simp [List.getD_eq_getElem?_getD, List.getElem?_eq_getElem hj']
theorem isBytes_own {w : World} {base g n cap : Nat} {l : List UInt8} (h : w.ownsRow base 5 1 (.slice (some ⟨g, 0, none⟩) n cap) n (Lib.byteCells l)) (hn : 1 ≤ n) (hc : n ≤ cap) : IsBytes w (some ⟨g, 0, none⟩) n cap l := by
  have hl : l.length = n := by simpa [Lib.byteCells] using h.1
  refine .inr ⟨g, 0, rfl, hl, hn, hc, fun j hj => ?_⟩
  have := h.cellAt j (by omega)
  rw [Nat.zero_add, this]
  simp [Lib.byteCells, List.getD_eq_getElem?_getD, List.getElem?_eq_getElem hj]

set_option maxRecDepth 100000 in
set_option maxHeartbeats 1000000 in
theorem law_main (a : Option Addr) (n c : Nat) (l : List UInt8) (x : UInt8) (hn : n ≤ 65536) (w : World) (hb : IsBytes w a n c l) :
    Calls Try.prog 3 #[.slice a n c, .int .u8 (x.toNat : Int)] w fun e w' => e = .returned (.bool true) ∧ Below w.heap.size w w' := by
  have hd := decide_eq_true (show n ≤ 1048576 by omega)
  have hn' : (n : Int) ≤ 65536 := by omega
  have hml : n ≤ maxLen := by unfold maxLen; omega
  obtain ⟨ti, hti, hy0, hy1, hy2⟩ := info_parts Try.info5
  have HB := Bx.mk hb
  have HL := Bx.mk hb.len
  clear hb
  go_enter Try.func3, Try.ntmps3
  go_wp2_with (go_at_call 4; refine (bytes_any a n c _ hml _).mono ?_; rintro e w2 ⟨rfl, h2⟩; subst w2; rw [hd])
  refine (clone_any a n c l _ HB.out (by omega)).mono ?_
  rintro e w1 ⟨a1, c1, rfl, hb1, hB1⟩
  have HB1 := Bx.mk hb1
  clear hb1
  have hone : ∀ v ∈ Lib.byteCells l, v.oneCell' = true := byteCells_one l
  have HONE := Bx.mk hone
  clear hone
  go_wp2_with (first | (at_make; refine wpList_make_own _ rfl _ _ 22 rfl w1.heap.size 5 ti (.int .u8 0) 1 Try.underlying22 hti hy0 hy1 _ _ _ (n + 1) rfl rfl (by omega) (by rw [hy2]; omega) (by unfold maxLen; omega) (Nat.le_refl _) ?_; intro w2 hown2 hg2; have hB2 := (Below.refl w1.heap.size w1).grown hg2 (Nat.le_refl _) (fun k hk => by cases hk); clear hg2) | (at_builtin; refine wpList_append_fits_any _ rfl _ _ 22 rfl w1.heap.size 5 ti 1 Try.underlying22 hti hy1 _ _ _ _ rfl hown2 a1 n c1 (Lib.byteCells l) rfl (by simp [Lib.byteCells, HL.out]) (fun h => by subst h; exact HB1.out.none) (fun ad had => (HB1.out.below hB2).cells ad had) HONE.out (by omega) ?_; intro w3 hown3 hg3; have hown3' : w3.ownsRow w1.heap.size 5 1 (.slice (some ⟨w1.heap.size, 0, none⟩) n (n + 1)) n (Lib.byteCells l) := (by simpa using hown3); clear hown3; have hB3 := hB2.grown hg3 hB2.size (fun k hk => by injection hk with hk; omega); clear hown2 hg3) | (at_builtin; refine wpList_append_fits _ rfl _ _ 22 rfl w1.heap.size 5 ti 1 Try.underlying22 hti hy1 w1.heap.size n (n + 1) _ rfl (hown3'.alloc _) ⟨w3.heap.size, 0, none⟩ 1 1 [_] rfl rfl (cell_one_new _ _ _) (fun x hx => by simp at hx; subst hx; rfl) (by omega) ?_; intro w4 hown4 hg4; have hB4 := (hB3.alloc hB3.size _).grown hg4 (by have := hB3.size; simp; omega) (fun k hk => by injection hk with hk; omega); clear hown3' hg4))
  have hlong : Bx (IsBytes w4 (some ⟨w1.heap.size, 0, none⟩) (n + 1) (n + 1) (l ++ [x])) := ⟨by
    refine isBytes_own (base := w1.heap.size) ?_ (by omega) (Nat.le_refl _)
    rw [Lib.byteCells_append]
    exact hown4⟩
  have hmod : Bx (IsBytes w4 a1 n c1 l) := ⟨HB1.out.below hB4⟩
  have hB : Below w.heap.size w w4 := hB1.trans (hB4.mono hB1.size)
  clear hown4 hB1 hB2 hB3 hB4 HB HB1 HONE
  have HL2 : Bx ((l ++ [x]).length = n + 1) := ⟨by rw [List.length_append, HL.out]; rfl⟩
  -- want
  refine (clone_any a1 n c1 l _ hmod.out (by omega)).mono ?_
  rintro e w5 ⟨a5, c5, rfl, hb5, hB5⟩
  have HB5 := Bx.mk hb5
  clear hb5
  go_wp2_with fail
  refine (RSASize_any a5 n c5 l _ HB5.out (by omega) (by rw [HL.out]; omega)).mono ?_
  rintro e w6 ⟨rfl, h6⟩
  subst w6
  replace hmod : Bx (IsBytes w5 a1 n c1 l) := ⟨hmod.out.below hB5⟩
  replace hlong : Bx (IsBytes w5 (some ⟨w1.heap.size, 0, none⟩) (n + 1) (n + 1) (l ++ [x])) := ⟨hlong.out.below hB5⟩
  replace hB := hB.trans (hB5.mono hB.size)
  clear HB5 hB5
  -- wantLonger
  go_wp2_with fail
  refine (clone_any _ (n + 1) (n + 1) (l ++ [x]) _ hlong.out (by omega)).mono ?_
  rintro e w7 ⟨a7, c7, rfl, hb7, hB7⟩
  have HB7 := Bx.mk hb7
  clear hb7
  go_wp2_with fail
  refine (RSASize_any a7 (n + 1) c7 (l ++ [x]) _ HB7.out (by omega) (by rw [HL2.out]; omega)).mono ?_
  rintro e w8 ⟨rfl, h8⟩
  subst w8
  replace hmod : Bx (IsBytes w7 a1 n c1 l) := ⟨hmod.out.below hB7⟩
  replace hlong : Bx (IsBytes w7 (some ⟨w1.heap.size, 0, none⟩) (n + 1) (n + 1) (l ++ [x])) := ⟨hlong.out.below hB7⟩
  replace hB := hB.trans (hB7.mono hB.size)
  clear HB7 hB7
  -- got
  go_wp2_with fail
  refine (ZZSize_any a1 n c1 l _ hmod.out (by omega)).mono ?_
  rintro e w9 ⟨rfl, hB9⟩
  replace hlong : Bx (IsBytes w9 (some ⟨w1.heap.size, 0, none⟩) (n + 1) (n + 1) (l ++ [x])) := ⟨hlong.out.below hB9⟩
  replace hB := hB.trans (hB9.mono hB.size)
  clear hB9 hmod
  -- gotLonger
  go_wp2_with fail
  refine (ZZSize_any _ (n + 1) (n + 1) (l ++ [x]) _ hlong.out (by omega)).mono ?_
  rintro e w10 ⟨rfl, hB10⟩
  replace hB := hB.trans (hB10.mono hB.size)
  clear hB10 hlong
  -- notRSA
  go_wp2_with fail
  refine (ZZSizeEd_any a1 n c1 _).mono ?_
  rintro e w11 ⟨rfl, h11⟩
  subst w11
  have hlg := Plain.longer l x
  have hsz := Plain.rsaSize_le l
  rw [HL.out] at hsz
  generalize Plain.rsaSize (l ++ [x]) = R2 at *
  generalize Plain.rsaSize l = R1 at *
  by_cases h0 : R1 = 0
  · subst h0
    clear hlg
    go_wp2
    go_ret
    exact ⟨rfl, hB⟩
  · obtain rfl : R2 = R1 + 1 := by omega
    have hne : ((R1 : Int) == 0) = false := by simp only [beq_eq_false_iff_ne]; omega
    clear hlg
    go_wp2
    go_ret
    exact ⟨rfl, hB⟩
end Go.Proofs.Qxb6618889a
