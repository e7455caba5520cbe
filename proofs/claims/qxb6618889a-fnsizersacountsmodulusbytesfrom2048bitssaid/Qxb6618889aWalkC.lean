import Derived.Test.Qxb6618889aWalkB
namespace Go.Proofs.Qxb6618889a
open Go.RowKit

/-- A fact kept from the walk: a structure, so that nothing looks into it. -/
structure Bx (p : Prop) : Prop where
  out : p

structure Sm (x y : Nat) : Prop where
  ge : x ≤ y
  lt : ∀ K, x < 2 ^ K → y < 2 ^ K
theorem Sm.refl (x : Nat) : Sm x x := ⟨Nat.le_refl _, fun _ h => h⟩
theorem Sm.step {x y : Nat} (h : Sm x y) (s : Nat) : Sm x (Plain.smear y s) := ⟨Nat.le_trans h.ge (Plain.smear_ge y s), fun K hk => Plain.smear_lt y s K (h.lt K hk)⟩

theorem or_smear (y s : Nat) (d : Int) (hy : y < 18446744073709551616) (hd : d = ((y / 2 ^ s : Nat) : Int)) : bits .or .u64 (y : Int) d = ((Plain.smear y s : Nat) : Int) := by
  subst hd
  rw [bits_or_u64_nat _ _ hy (Nat.lt_of_le_of_lt (Nat.div_le_self _ _) hy)]
  rfl

theorem smear_lt64 {x y : Nat} (h : Sm x y) (hx : x < 18446744073709551616) : y < 18446744073709551616 := by
  have := h.lt 64 (by simpa using hx)
  simpa using this

set_option maxHeartbeats 400000 in
theorem bitLen_pos (B i cap V : Nat) (hi : i < 100000) (w : World) (hc : w.cell? ⟨B, i, none⟩ = some (.int .u64 (Plain.wd V i))) (h1 : V < 2 ^ (64 * (i + 1))) (h2 : 2 ^ (64 * i) ≤ V) :
    Calls Try.prog 21 #[.slice (some ⟨B, 0, none⟩) (i + 1) cap] w fun e w' => ∃ bl : Nat, e = .returned (.int .i64 bl) ∧ Plain.IsBL V bl ∧ bl ≤ 64 * i + 64 ∧ w' = w := by
  have hx0 := Plain.wd_lt V i
  have hfin : Hid (∀ y, Sm (Plain.wd V i) y → Plain.IsBL V (64 * i + Lib.bitLen y)) := fun y hs =>
    Plain.isBL_words V i y h1 h2 (by have := smear_lt64 hs hx0; simpa using this) hs.ge hs.lt
  clear h1 h2
  have s0 := Sm.refl (Plain.wd V i)
  generalize Plain.wd V i = x at *
  have s1 := s0.step 1
  have e1 := or_smear x 1 ((x : Int) / 2) hx0 (by omega)
  generalize Plain.smear x 1 = x1 at *
  have b1 := smear_lt64 s1 hx0
  have s2 := s1.step 2
  have e2 := or_smear x1 2 ((x1 : Int) / 4) b1 (by omega)
  generalize Plain.smear x1 2 = x2 at *
  have b2 := smear_lt64 s2 hx0
  have s3 := s2.step 4
  have e3 := or_smear x2 4 ((x2 : Int) / 16) b2 (by omega)
  generalize Plain.smear x2 4 = x3 at *
  have b3 := smear_lt64 s3 hx0
  have s4 := s3.step 8
  have e4 := or_smear x3 8 ((x3 : Int) / 256) b3 (by omega)
  generalize Plain.smear x3 8 = x4 at *
  have b4 := smear_lt64 s4 hx0
  have s5 := s4.step 16
  have e5 := or_smear x4 16 ((x4 : Int) / 65536) b4 (by omega)
  generalize Plain.smear x4 16 = x5 at *
  have b5 := smear_lt64 s5 hx0
  have s6 := s5.step 32
  have e6 := or_smear x5 32 ((x5 : Int) / 65536 / 65536) b5 (by omega)
  generalize Plain.smear x5 32 = x6 at *
  have b6 := smear_lt64 s6 hx0
  have S6 : Hid (Sm x x6) := s6
  clear s0 s1 s2 s3 s4 s5 s6
  go_enter Try.func21, Try.ntmps21
  go_wp2_with fail
  refine (bits_Len x6 _ (by omega) (by omega)).mono ?_
  rintro e w' ⟨rfl, rfl⟩
  rw [Int.toNat_natCast]
  have hF : Hid (Plain.IsBL V (64 * i + Lib.bitLen x6)) := hfin.out x6 S6.out
  have hL : Lib.bitLen x6 ≤ 64 := Lib.bitLen_le x6 64 (by omega) (by simpa using b6)
  clear hfin S6
  generalize Lib.bitLen x6 = L at *
  go_wp2
  go_ret
  refine ⟨64 * i + L, ?_, hF.out, by omega, rfl⟩
  exact congrArg Ending.returned (congrArg (Value.int IntKind.i64) (by push_cast; omega))

theorem bitLen_empty (a : Option Addr) (cap : Nat) (w : World) :
    Calls Try.prog 21 #[.slice a 0 cap] w fun e w' => e = .returned (.int .i64 0) ∧ w' = w := by
  go_enter Try.func21, Try.ntmps21
  go_wp2
  go_ret
  exact ⟨rfl, rfl⟩

set_option maxHeartbeats 400000 in
theorem setBytes_empty (a : Option Addr) (cap : Nat) (w : World) :
    Calls Try.prog 20 #[.slice none 0 0, .slice a 0 cap] w fun e w' => e = .returned (.slice none 0 0) ∧ w' = w := by
  go_enter Try.func20, Try.ntmps20
  go_wp2_with (first | (go_at_call 22; refine (make_zero _).mono ?_; rintro e w' ⟨rfl, rfl⟩))
  refine wp_loop_rounds 1 ?_
  rw [rounds_succ]
  go_wp2_with (first | (go_at_call 24; refine (norm_nil _).mono ?_; rintro e w' ⟨rfl, rfl⟩))
  go_ret
  exact ⟨rfl, rfl⟩

/-- In the loops: the words block is B, with cap cells; the first k hold V's words; below B all is as it was. -/
structure NW (w : World) (V cap k : Nat) (wr : World) : Prop where
  has : ∀ j, j < cap → ∃ v, wr.cell? ⟨w.heap.size, j, none⟩ = some v
  free : ∀ j, wr.frozen? ⟨w.heap.size, j, none⟩ = false
  done : ∀ j, j < k → wr.cell? ⟨w.heap.size, j, none⟩ = some (.int .u64 (Plain.wd V j))
  bel : Below w.heap.size w wr
theorem NW.start (w : World) (V cap : Nat) : NW w V cap 0 (w.alloc (.cells (zeros cap) 51)) := by
  refine ⟨fun j hj => ⟨.int .u64 0, ?_⟩, fun j => ?_, fun j hj => by omega, (Below.refl _ _).alloc (Nat.le_refl _) _⟩
  · rw [World.cell?_alloc_new]; exact zeros_at cap j hj
  · rw [frozen?_alloc_cells]; simp [World.frozen?]
theorem NW.drewN {w : World} {V cap k : Nat} {wr : World} (h : NW w V cap k wr) (n : Nat) : NW w V cap k (wr.drewN n) := ⟨h.has, h.free, h.done, below_drewN h.bel n⟩
theorem NW.put {w : World} {V cap k : Nat} {wr : World} (h : NW w V cap k wr) (hk : k < cap) : NW w V cap (k + 1) (wr.setCell ⟨w.heap.size, k, none⟩ (.int .u64 (Plain.wd V k))) := by
  obtain ⟨v, hv⟩ := h.has k hk
  have hs := World.cell?_setCell_same wr ⟨w.heap.size, k, none⟩ (.int .u64 (Plain.wd V k)) hv
  refine ⟨fun j hj => ?_, fun j => ?_, fun j hj => ?_, h.bel.setCell (Nat.le_refl _) _⟩
  · by_cases e : j = k
    · subst e; exact ⟨_, hs⟩
    · obtain ⟨u, hu⟩ := h.has j hj
      exact ⟨u, by rw [World.cell?_setCell_other _ _ _ _ (by intro h; injection h with h1 h2; omega)]; exact hu⟩
  · rw [World.frozen?_setCell]; exact h.free j
  · by_cases e : j = k
    · subst e; exact hs
    · rw [World.cell?_setCell_other _ _ _ _ (by intro h; injection h with h1 h2; omega)]; exact h.done j (by omega)

def BytesAt (w : World) (g o : Nat) (l : List UInt8) : Prop := ∀ j, j < l.length → w.cell? ⟨g, o + j, none⟩ = some (.int .u8 (l.getD j 0).toNat)

theorem BytesAt.sub {w : World} {g o : Nat} {l : List UInt8} (h : BytesAt w g o l) (i k : Nat) : BytesAt w g (o + i) ((l.drop i).take k) := by
  intro j hj
  simp only [List.length_take, List.length_drop] at hj
  have := h (i + j) (by omega)
  rw [Nat.add_assoc, this]
  simp only [List.getD_eq_getElem?_getD, List.getElem?_take, List.getElem?_drop]
  rw [if_pos (by omega)]
theorem BytesAt.below {w w' : World} {g o : Nat} {l : List UInt8} (h : BytesAt w g o l) (hb : Below w.heap.size w w') : BytesAt w' g o l := by
  intro j hj
  have := h j hj
  rw [hb.cell (World.block_lt_of_cell? w _ this)]
  exact this

theorem beWord_at (g o n c : Nat) (l : List UInt8) (hl : l.length = 8) (w : World) (hn : 8 ≤ n) (hc : BytesAt w g o l) :
    Calls Try.prog 23 #[.slice (some ⟨g, o, none⟩) n c] w fun e w' => e = .returned (.int .u64 (Plain.bv l)) ∧ ∃ nq, w' = w.drewN nq := by
  refine beWord_list g o n c l hl w hn (fun j hj => ?_)
  rw [hc j hj]
  simp [List.getD_eq_getElem?_getD, List.getElem?_eq_getElem hj]

theorem or_shl (d b s : Nat) (hd : d < 2 ^ s) (hb : b < 256) (hs : s ≤ 56) : bits .or .u64 (d : Int) (IntKind.u64.wrap ((b : Int) * 2 ^ s)) = ((b * 2 ^ s + d : Nat) : Int) := by
  have h1 : 2 ^ s ≤ 2 ^ 56 := Nat.pow_le_pow_right (by omega) hs
  have h2 : b * 2 ^ s ≤ 255 * 2 ^ s := Nat.mul_le_mul_right _ (by omega)
  have h3 : (2 : Nat) ^ 56 = 72057594037927936 := by decide
  have e1 : (b : Int) * 2 ^ s = ((b * 2 ^ s : Nat) : Int) := by push_cast; rfl
  have e2 : IntKind.u64.wrap ((b : Int) * 2 ^ s) = ((b * 2 ^ s : Nat) : Int) := by
    rw [e1, IntKind.wrap_u64]; omega
  rw [e2, bits_or_u64_nat _ _ (by omega) (by omega), Nat.or_comm, Nat.mul_comm, Nat.two_pow_add_eq_or_of_lt hd]

theorem bv_step (l : List UInt8) (i q s : Nat) (hi : i ≤ l.length) (hq : q + 1 ≤ i) (hs : s = 8 * (i - (q + 1))) :
    Plain.bv ((l.take i).drop q) = (l.getD q 0).toNat * 2 ^ s + Plain.bv ((l.take i).drop (q + 1)) ∧ Plain.bv ((l.take i).drop (q + 1)) < 2 ^ s := by
  have hlen : ((l.take i).drop (q + 1)).length = i - (q + 1) := by simp; omega
  have e : (l.take i).drop q = l.getD q 0 :: (l.take i).drop (q + 1) := by
    have hq2 : q < (l.take i).length := by simp; omega
    rw [List.drop_eq_getElem_cons hq2]
    congr 1
    simp [List.getD_eq_getElem?_getD, List.getElem?_eq_getElem (show q < l.length by omega)]
  have hlt := Plain.bv_lt ((l.take i).drop (q + 1))
  rw [hlen, Plain.pow256, ← hs] at hlt
  refine ⟨?_, hlt⟩
  rw [e, Plain.bv, hlen, Plain.pow256, ← hs]

set_option maxHeartbeats 1000000 in
theorem setBytes_any (g o c n : Nat) (l : List UInt8) (hnl : Hid (l.length = n)) (w : World) (h1 : 1 ≤ n) (h2 : n ≤ 70000) (hlc : n ≤ c) (hc : BytesAt w g o l) :
    Calls Try.prog 20 #[.slice none 0 0, .slice (some ⟨g, o, none⟩) n c] w fun e w' => ∃ i cap : Nat, e = .returned (.slice (some ⟨w.heap.size, 0, none⟩) i cap) ∧ i ≤ 10000 ∧ NormOK (Plain.bv l) ((n + 7) / 8) i ∧ (∀ j, j < i → w'.cell? ⟨w.heap.size, j, none⟩ = some (.int .u64 (Plain.wd (Plain.bv l) j))) ∧ Below w.heap.size w w' := by
  obtain ⟨nw, hnw⟩ : ∃ nw, nw = (n + 7) / 8 := ⟨_, rfl⟩
  have hnw1 : 1 ≤ nw := by omega
  have hnw2 : nw ≤ 9000 := by omega
  have hnw3 : 8 * nw ≤ n + 7 := by omega
  have hnw4 : n ≤ 8 * nw := by omega
  have hnwI : ((n : Int) + 8 - 1) / 8 = (nw : Int) := by omega
  have hwf : Hid (∀ k, 8 * (k + 1) ≤ n → Plain.wd (Plain.bv l) k = Plain.bv ((l.drop (n - 8 * (k + 1))).take 8)) := fun k hk => by
    have := Plain.wd_full l k (by rw [hnl.out]; exact hk)
    rw [hnl.out] at this
    exact this
  rw [← hnw]
  clear hnw
  generalize hV : Plain.bv l = V at *
  have HV : Hid (Plain.bv l = V) := hV
  clear hV
  go_enter Try.func20, Try.ntmps20
  go_wp2_with (first | (go_at_call 22; rw [hnwI]; refine (make_any nw hnw1 (by omega) _).mono ?_; rintro e w' ⟨cap, rfl, hcap1, hcap2, rfl⟩))
  have hst := NW.start w V cap
  go_loopw [5, 6] (fun t5 t6 wr => ∃ i k : Nat, Hid (i + 8 * k = n) ∧ i ≤ n ∧ 8 * k ≤ n ∧ t5 = .int .i64 i ∧ t6 = .int .i64 k ∧ NW w V cap k wr) (fun t5 _ _ => (intOf t5).toNat)
  case atStart => exact ⟨n, 0, rfl, Nat.le_refl _, by omega, rfl, rfl, hst⟩
  case round =>
    obtain ⟨i, k, hik, hi, hk, rfl, rfl, hNW⟩ := hrel
    clear hst
    by_cases h8 : 8 ≤ i
    · obtain ⟨m, rfl⟩ : ∃ m, i = m + 8 := ⟨i - 8, by omega⟩
      have hkw : k < nw := by have := hik.out; omega
      have hkc : k < cap := by omega
      obtain ⟨v, hv⟩ := hNW.has k hkc
      have hf := hNW.free k
      have hword := hwf.out k (by have := hik.out; omega)
      have hm : n - 8 * (k + 1) = m := by have := hik.out; omega
      rw [hm] at hword
      have h8l : ((l.drop m).take 8).length = 8 := by have := hik.out; have := hnl.out; simp; omega
      have hbe : Hid (∀ wx, Below w.heap.size w wx → Calls Try.prog 23 #[.slice (some ⟨g, o + m, none⟩) 8 (c - m)] wx fun e w' => e = .returned (.int .u64 (Plain.wd V k)) ∧ ∃ nq, w' = wx.drewN nq) := by
        intro wx hwx
        rw [hword]
        exact beWord_at g (o + m) 8 (c - m) _ h8l wx (by omega) ((hc.below hwx).sub m 8)
      have hmc : (m : Int) + 8 ≤ (c : Int) := by omega
      clear hword hm h8l
      go_wp2_with fail
      refine (hbe.out wr hNW.bel).mono ?_
      rintro e w' ⟨rfl, nq, rfl⟩
      have hN2 := (hNW.drewN nq).put hkc
      generalize hx : Plain.wd V k = x at *
      clear hx
      have hv' : (wr.drewN nq).cell? ⟨w.heap.size, k, none⟩ = some v := hv
      have hf' : (wr.drewN nq).frozen? ⟨w.heap.size, k, none⟩ = false := hf
      clear hNW hbe hv hf
      generalize wr.drewN nq = W1 at *
      go_wp2
      go_roundw
      case rel => exact ⟨m, k + 1, by have := hik.out; show _ = _; omega, by omega, by have := hik.out; omega, rfl, by go_num, hN2⟩
      case measure => simp [intOf]; omega
    · have hwp : Hid (Plain.wd V k = Plain.bv (l.take i)) := by
        have e := hik.out
        have e2 := hnl.out
        have := Plain.wd_part l k (by omega) (by omega)
        rw [e2, HV.out] at this
        have hm : n - 8 * k = i := by omega
        rw [hm] at this
        exact this
      have hVn : Bx (V < 2 ^ (64 * nw)) := by
        have := Plain.bv_lt_words l nw (by rw [hnl.out]; exact hnw4)
        rw [HV.out] at this
        exact ⟨this⟩
      by_cases h0 : i = 0
      · have hkn : k = nw := by have := hik.out; omega
        subst hkn
        subst h0
        go_wp2_with fail
        refine (norm_any w.heap.size k cap V _ hcap1 (by omega) (by omega) hNW.done hVn.out).mono ?_
        rintro e w' ⟨i2, rfl, hok, rfl⟩
        have H1 : Hid (i2 ≤ k) := hok.1
        have hfin : Hid (∀ j, j < i2 → w'.cell? ⟨w.heap.size, j, none⟩ = some (.int .u64 (Plain.wd V j))) := fun j hj => hNW.done j (by have := hok.1; omega)
        have hbel := hNW.bel
        clear hNW
        go_wp2
        go_ret
        exact ⟨i2, cap, rfl, by have := H1.out; omega, hok, hfin.out, hbel⟩
      · have hkn : nw = k + 1 := by have := hik.out; omega
        subst hkn
        have hpos : 0 < i := by omega
        have h7 : i ≤ 7 := by omega
        go_wp2_with fail
        go_loop [5, 7, 8] (fun t5 t7 t8 => ∃ p s : Nat, p ≤ i ∧ Hid (s = 8 * (i - p)) ∧ s ≤ 56 ∧ t5 = .int .i64 p ∧ t8 = .int .u64 s ∧ t7 = .int .u64 (Plain.bv ((l.take i).drop p))) (fun t5 _ _ => (intOf t5).toNat)
        case atStart => exact ⟨i, 0, Nat.le_refl _, by show _ = _; omega, by omega, rfl, rfl, by rw [List.drop_eq_nil_of_le (by simp; omega)]; rfl⟩
        case round =>
          obtain ⟨p, s, hp, hs, hs2, rfl, rfl, rfl⟩ := hrel
          by_cases hp0 : p = 0
          · subst hp0
            have hw : Plain.bv ((l.take i).drop 0) = Plain.wd V k := hwp.out.symm
            rw [hw]
            clear hw
            have hkc : k < cap := by omega
            obtain ⟨v, hv⟩ := hNW.has k hkc
            have hf := hNW.free k
            have hN2 := hNW.put hkc
            go_wp2_with fail
            refine (norm_any w.heap.size (k + 1) cap V _ hcap1 (by omega) (by omega) hN2.done hVn.out).mono ?_
            rintro e w' ⟨i2, rfl, hok, rfl⟩
            have H1 : Hid (i2 ≤ k + 1) := hok.1
            have hbel := hN2.bel
            have hfin := Bx.mk (fun j (hj : j < i2) => hN2.done j (by have := hok.1; omega))
            have HOK := Bx.mk hok
            clear hNW hN2 hok
            go_wp2
            go_ret
            exact ⟨i2, cap, rfl, by have := H1.out; omega, HOK.out, hfin.out, hbel⟩
          · obtain ⟨q, rfl⟩ : ∃ q, p = q + 1 := ⟨p - 1, by omega⟩
            have hcell : wr.cell? ⟨g, o + q, none⟩ = some (.int .u8 ((l.getD q 0).toNat : Int)) := (hc.below hNW.bel) q (by have := hnl.out; have := hik.out; omega)
            have hbl : (l.getD q 0).toNat < 256 := UInt8.toNat_lt _
            have hstep := bv_step l i q s (by have := hnl.out; omega) hp hs.out
            have hor := Bx.mk (or_shl _ _ s hstep.2 hbl (by have := hs.out; omega))
            have hst1 := Bx.mk hstep.1
            clear hstep
            generalize (l.getD q 0).toNat = b at *
            generalize Plain.bv ((l.take i).drop (q + 1)) = d at *
            go_wp2
            exact ⟨⟨q, s + 8, by omega, by show _ = _; have := hs.out; omega, by have := hs.out; omega, rfl, by go_num, by rw [hor.out, hst1.out]⟩, by simp [intOf]⟩
end Go.Proofs.Qxb6618889a
