import Derived.Test.Qxb6618968aWalkE
import Derived.Lib.AppendStr
import Derived.Lib.UnsafeStr
namespace Go.Proofs.Qxb6618968a
open Go.RowKit

theorem toList_inj {a b : ByteArray} (h : a.toList = b.toList) : a = b := by
  rw [ByteArray.toList_eq, ByteArray.toList_eq] at h
  cases a; cases b
  exact congrArg ByteArray.mk (Array.toList_inj.1 h)

set_option maxRecDepth 100000 in
set_option maxHeartbeats 400000 in
theorem member_any (a : Option Addr) (n c : Nat) (l : List ByteArray) (s : ByteArray) (w : World) (hb : IsStrs w a n c l) (hn : n ≤ 1048576) :
    Calls Try.prog 10 #[.slice a n c, .string s] w fun e w' => e = .returned (.bool (mem l s)) ∧ w' = w := by
  have hnI : (n : Int) ≤ 1048576 := by omega
  have HL := Bx.mk hb.len
  have HB := Bx.mk hb
  clear hb hn
  go_enter Try.func10, Try.ntmps10
  go_wp2
  go_loop [5] (fun t => ∃ j : Nat, j ≤ n ∧ t = .int .i64 j ∧ Bx (∀ i, i < j → l.getD i ByteArray.empty ≠ s)) (fun t => n - (intOf t).toNat)
  case atStart => exact ⟨0, Nat.zero_le _, rfl, ⟨fun i hi => by omega⟩⟩
  case round =>
    obtain ⟨j, hj, rfl, hz⟩ := hrel
    by_cases hlt : j < n
    · have hltI : (j : Int) < n := by omega
      obtain ⟨g, o, rfl, hcell⟩ := HB.out.cellAt j hlt
      have hjl : j < l.length := by rw [HL.out]; exact hlt
      by_cases he : l.getD j ByteArray.empty = s
      · have hm : Bx (mem l s = true) := ⟨(mem_iff _ _).2 (by rw [← he]; exact getD_mem l j hjl)⟩
        rw [he] at hcell
        clear he
        go_wp2
        go_ret
        exact ⟨by rw [hm.out]; rfl, rfl⟩
      · have hz2 : Bx (∀ i, i < j + 1 → l.getD i ByteArray.empty ≠ s) := ⟨fun i hi => by
          rcases Nat.lt_or_ge i j with h | h
          · exact hz.out i h
          · have : i = j := by omega
            subst this; exact he⟩
        have hne : ¬ (l.getD j ByteArray.empty).toList = s.toList := fun h => he (toList_inj h)
        generalize l.getD j ByteArray.empty = x at *
        have hneB : (x.toList == s.toList) = false := by simpa using hne
        clear he hz
        go_wp2
        go_round
        case rel => exact ⟨j + 1, by omega, by go_num, hz2⟩
        case measure => simp [intOf]; omega
    · have hltI : ¬ (j : Int) < n := by omega
      have hm : Bx (mem l s = false) := ⟨by
        cases hm : mem l s with
        | false => rfl
        | true =>
          obtain ⟨i, hi, he⟩ := List.getElem_of_mem ((mem_iff _ _).1 hm)
          have := hz.out i (by have := HL.out; omega)
          rw [List.getD_eq_getElem?_getD, List.getElem?_eq_getElem hi] at this
          exact absurd he this⟩
      go_wp2
      go_ret
      exact ⟨by rw [hm.out]; rfl, rfl⟩

/-! ### zzb1Message -/
theorem Try.info5 : (Try.prog.info? 5).map (fun i => (i.zero, i.size, i.bytes)) = some (some (.int .u8 0), 1, 1) := by kernel_rfl
theorem conv_own (w : World) (base : Nat) (v : Value) (n : Nat) (l : List UInt8) (hown : w.ownsRow base 5 1 v n (Lib.byteCells l)) (hl : l ≠ []) :
    (convert 49 9 v).run Try.prog w = .ok (.string ⟨l.toArray⟩) w := by
  have hn : l.length = n := by simpa [Lib.byteCells] using hown.1
  have hpos : 0 < l.length := List.length_pos_iff.2 hl
  rcases hown.2 with ⟨_, h0⟩ | ⟨g, cap, cur, rfl, hb, hg, hnc, hcm, hcs, htake⟩
  · omega
  · have hcells := hown.cells (g := g) rfl
    subst hn
    refine run_convert_bytes_back w 49 9 5 ⟨g, 0, none⟩ cap l Try.underlying49 Try.underlying5 Try.underlying9 (fun j hj => hcells j _ ?_)
    simp [Lib.byteCells, List.getElem?_eq_getElem hj]

def headL : List UInt8 := [109, 117, 115, 116, 32, 98, 101, 32, 111, 110, 101, 32, 111, 102, 32]
/-- What the loop has written after j elements. -/
def msgTo (l : List ByteArray) (j : Nat) : List UInt8 := headL ++ joinL (l.take j)
theorem join_snoc (xs : List (List UInt8)) (x sep : List UInt8) (h : xs ≠ []) : Lib.join (xs ++ [x]) sep = Lib.join xs sep ++ sep ++ x := by
  cases xs with
  | nil => exact absurd rfl h
  | cons y r =>
    rw [List.cons_append, Lib.join_cons, Lib.join_cons]
    simp [Lib.joinTail, List.append_assoc]
theorem msgTo_zero (l : List ByteArray) : msgTo l 0 = headL := by simp [msgTo, joinL, Lib.join]
theorem msgTo_one (l : List ByteArray) (h : 0 < l.length) : msgTo l 1 = headL ++ (l.getD 0 ByteArray.empty).data.toList := by
  cases l with
  | nil => simp at h
  | cons x r => simp [msgTo, joinL, Lib.join_one]
theorem msgTo_succ (l : List ByteArray) (j : Nat) (h : j < l.length) (h0 : 0 < j) : msgTo l (j + 1) = msgTo l j ++ [44, 32] ++ (l.getD j ByteArray.empty).data.toList := by
  unfold msgTo joinL
  rw [List.take_succ_eq_append_getElem h, List.map_append, List.map_cons, List.map_nil, join_snoc _ _ _ (by
    intro e
    have h2 := congrArg List.length e
    rw [List.length_map, List.length_take, List.length_nil] at h2
    omega)]
  simp [List.getD_eq_getElem?_getD, List.getElem?_eq_getElem h]
theorem msgTo_all (l : List ByteArray) (j : Nat) (h : l.length ≤ j) : msgTo l j = msgL l := by
  unfold msgTo msgL headL
  rw [List.take_of_length_le h]
theorem msgTo_length (l : List ByteArray) (j : Nat) : (msgTo l j).length ≤ 15 + 2 * l.length + lens l := by
  have h1 := joinL_length (l.take j)
  have h2 := lens_take_le l j
  have h3 : (l.take j).length ≤ l.length := List.length_take_le' _ _
  unfold msgTo headL
  simp only [List.length_append, List.length_cons, List.length_nil]
  omega
theorem cell_two_lit (w : World) (x y : Value) (t : TypeId) : ∀ j u, [x, y][j]? = some u → (w.alloc (.cells #[x, y] t)).cell? ((⟨w.heap.size, 0, none⟩ : Addr).add j) = some u := by
  intro j u hj
  match j, hj with
  | 0, hj => simp at hj; subst hj; rw [Addr.add_lit, World.cell?_alloc_new]; rfl
  | 1, hj => simp at hj; subst hj; rw [Addr.add_lit, World.cell?_alloc_new]; rfl
  | j + 2, hj => simp at hj

set_option maxRecDepth 100000 in
set_option maxHeartbeats 1000000 in
theorem message_any (a : Option Addr) (n c : Nat) (l : List ByteArray) (w : World) (hb : IsStrs w a n c l) (hn : n + lens l ≤ 1048576) :
    Calls Try.prog 12 #[.slice a n c] w fun e w' => e = .returned (.string ⟨(msgL l).toArray⟩) ∧ Below w.heap.size w w' := by
  obtain ⟨ti, hti, hy0, hy1, hy2⟩ := info_parts Try.info5
  have hnI : (n : Int) ≤ 1048576 := by omega
  have HL := Bx.mk hb.len
  have HB := Bx.mk hb
  have HS := Bx.mk hn
  have HM := Bx.mk (msgTo_length l)
  clear hb hn
  go_enter Try.func12, Try.ntmps12
  go_wp2
  go_loop [3, 4] (fun t3 t4 => ∃ j z : Nat, j ≤ n ∧ t4 = .int .i64 j ∧ t3 = .int .i64 z ∧ Bx (z = 15 + 2 * j + lens (l.take j))) (fun _ t4 => n - (intOf t4).toNat)
  case atStart => exact ⟨0, 15, Nat.zero_le _, rfl, rfl, ⟨by simp [lens_nil]⟩⟩
  case round =>
    obtain ⟨j, z, hj, rfl, rfl, hz⟩ := hrel
    have hzb : (z : Int) ≤ 4000000 := by have := hz.out; have := lens_take_le l j; have := HS.out; omega
    by_cases hlt : j < n
    · have hltI : (j : Int) < n := by omega
      obtain ⟨g, o, rfl, hcell⟩ := HB.out.cellAt j hlt
      have hjl : j < l.length := by rw [HL.out]; exact hlt
      have hst := Bx.mk (lens_take_succ l j hjl)
      have hszI : ((l.getD j ByteArray.empty).size : Int) ≤ 1048576 := by
        have := hst.out; have := lens_take_le l (j + 1); have := HS.out; omega
      generalize l.getD j ByteArray.empty = s at *
      go_wp2
      go_round
      case rel => exact ⟨j + 1, z + (s.size + 2), by omega, by go_num, by go_num, ⟨by have := hz.out; have := hst.out; omega⟩⟩
      case measure => simp [intOf]; omega
    · have hltI : ¬ (j : Int) < n := by omega
      have hstart := Bx.mk (msgTo_zero l)
      go_wp2_with (first | (at_make; refine wpList_make_own _ rfl _ _ 49 rfl w.heap.size 5 ti (.int .u8 0) 1 Try.underlying49 hti hy0 hy1 _ _ _ z rfl rfl (by omega) (by rw [hy2]; omega) (by unfold maxLen; omega) (Nat.le_refl _) ?_; intro w1 hown1 hg1; have hB1 := (Below.refl w.heap.size w).grown hg1 (Nat.le_refl _) (fun k hk => by cases hk); clear hg1) | (at_builtin; refine Lib.wpList_append_own_string _ rfl _ _ 49 9 rfl w.heap.size 5 ti Try.underlying49 Try.underlying9 hti hy0 hy1 hy2 _ _ _ rfl hown1 ⟨#[109, 117, 115, 116, 32, 98, 101, 32, 111, 110, 101, 32, 111, 102, 32]⟩ rfl (by show 0 + 15 ≤ _; unfold maxLen; omega) (by show 0 + 15 ≤ _; omega) hB1.size ?_; intro v2 w2 hown2 hg2 hnil2; have hB2 := hB1.grown hg2 hB1.size (fun k hk => (hown1.lt k hk).1); clear hown1 hg2 hnil2))
      have hown2' : w2.ownsRow w.heap.size 5 1 v2 15 (Lib.byteCells (msgTo l 0)) := by
        rw [hstart.out]; exact hown2
      clear hown2 hB1 hstart hz
      go_loopw [5, 6] (fun t5 t6 wr => ∃ (j m : Nat), j ≤ n ∧ t6 = .int .i64 j ∧ Bx (wr.ownsRow w.heap.size 5 1 t5 m (Lib.byteCells (msgTo l j))) ∧ Below w.heap.size w wr) (fun _ t6 _ => n - (intOf t6).toNat)
      case atStart => exact ⟨0, 15, Nat.zero_le _, rfl, ⟨hown2'⟩, hB2⟩
      case round =>
        obtain ⟨j2, m, hj2, rfl, hown, hB⟩ := hrel
        clear hown2' hB2
        have hml : m ≤ 4000000 := by
          have h1 := hown.out.1
          rw [Lib.byteCells, List.length_map, Nat.mul_one] at h1
          have := HM.out j2
          have := HS.out
          have := HL.out
          omega
        by_cases hlt2 : j2 < n
        · have hltI2 : (j2 : Int) < n := by omega
          have hjl : j2 < l.length := by rw [HL.out]; exact hlt2
          have hszI : ((l.getD j2 ByteArray.empty).size : Int) ≤ 1048576 := by
            have := lens_take_succ l j2 hjl; have := lens_take_le l (j2 + 1); have := HS.out; omega
          obtain ⟨g, o, rfl, hcell⟩ := (HB.out.below hB).cellAt j2 hlt2
          by_cases h0 : j2 = 0
          · have hm1 : Bx (∀ s : ByteArray, s = l.getD 0 ByteArray.empty → Lib.byteCells (msgTo l (0 + 1)) = Lib.byteCells (msgTo l 0) ++ Lib.strCells s) := ⟨by
              rintro s rfl
              rw [Lib.strCells_eq, ← Lib.byteCells_append, msgTo_zero, msgTo_one l (by omega)]⟩
            subst h0
            rw [Nat.add_zero] at hcell
            generalize hs : l.getD 0 ByteArray.empty = s at hcell hszI
            have HSx := Bx.mk hs
            clear hs
            go_wp2_with (first | (at_builtin; refine Lib.wpList_append_own_string _ rfl _ _ 49 9 rfl w.heap.size 5 ti Try.underlying49 Try.underlying9 hti hy0 hy1 hy2 u5 _ _ rfl hown.out s rfl (by unfold maxLen; omega) (by omega) hB.size ?_; intro v4 w4 hown4 hg4 hnil4; have hB4 := hB.grown hg4 hB.size (fun k hk => (hown.out.lt k hk).1); clear hg4 hnil4))
            go_roundw
            case rel => exact ⟨0 + 1, _, by omega, by go_num, ⟨by rw [hm1.out s HSx.out.symm]; exact hown4⟩, hB4⟩
            case measure => simp [intOf]; omega
          · have hm1 : Bx (∀ s : ByteArray, s = l.getD j2 ByteArray.empty → Lib.byteCells (msgTo l (j2 + 1)) = Lib.byteCells (msgTo l j2) ++ [.int .u8 44, .int .u8 32] ++ Lib.strCells s) := ⟨by
              rintro s rfl
              rw [Lib.strCells_eq, msgTo_succ l j2 hjl (by omega), Lib.byteCells_append, Lib.byteCells_append]
              rfl⟩
            have h0I : (0 : Int) < j2 := by omega
            generalize hs : l.getD j2 ByteArray.empty = s at hcell hszI
            have HSx := Bx.mk hs
            clear hs h0
            go_wp2_with (first | (at_builtin; refine wpList_append_own _ rfl _ _ 49 rfl w.heap.size 5 ti (.int .u8 0) 1 1 Try.underlying49 hti hy0 hy1 hy2 rfl (by decide) u5 _ _ rfl (hown.out.alloc _) ⟨wr.heap.size, 0, none⟩ 2 2 [.int .u8 44, .int .u8 32] rfl rfl (cell_two_lit _ _ _ _) (fun x hx => by simp at hx; rcases hx with rfl | rfl <;> rfl) (by unfold maxLen; omega) (by omega) (by have := hB.size; simp; omega) ?_; intro v3 w3 hown3 hg3 hnil3; have hB3 := (hB.alloc hB.size _).grown hg3 (by have := hB.size; simp; omega) (fun k hk => (hown.out.lt k hk).1); have HO3 := Bx.mk hown3; have hcell3 : w3.cell? ⟨g, o + j2, none⟩ = some (.string s) := (by obtain ⟨g', o', e1, e2⟩ := (HB.out.below hB3).cellAt j2 hlt2; injection e1 with e1; injection e1 with e1 e1'; subst e1 e1'; rw [HSx.out] at e2; exact e2); clear hown3 hg3 hnil3 hown) | (at_builtin; refine Lib.wpList_append_own_string _ rfl _ _ 49 9 rfl w.heap.size 5 ti Try.underlying49 Try.underlying9 hti hy0 hy1 hy2 v3 _ _ rfl HO3.out s rfl (by unfold maxLen; omega) (by omega) hB3.size ?_; intro v4 w4 hown4 hg4 hnil4; have hB4 := hB3.grown hg4 hB3.size (fun k hk => (HO3.out.lt k hk).1); clear hg4 hnil4))
            go_roundw
            case rel => exact ⟨j2 + 1, _, by omega, by go_num, ⟨by rw [hm1.out s HSx.out.symm]; exact hown4⟩, hB4⟩
            case measure => simp [intOf]; omega
        · have hltI2 : ¬ (j2 : Int) < n := by omega
          have hall : Bx (Lib.byteCells (msgTo l j2) = Lib.byteCells (msgL l)) := ⟨by rw [msgTo_all l j2 (by have := HL.out; omega)]⟩
          have hcv := conv_own wr w.heap.size u5 m (msgL l) (by rw [← hall.out]; exact hown.out) (by simp [msgL])
          generalize hM : msgL l = M at *
          have HM2 := Bx.mk hM
          clear hM
          go_wp2
          go_ret
          exact ⟨by rw [HM2.out]; rfl, hB⟩
end Go.Proofs.Qxb6618968a
