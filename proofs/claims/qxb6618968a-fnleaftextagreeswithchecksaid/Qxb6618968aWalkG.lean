import Derived.Test.Qxb6618968aWalkF
import Derived.Deep.RegionLaw
namespace Go.Proofs.Qxb6618968a
open Go.RowKit

/-- append onto a slice of the call's own, as one step of a region that draws. -/
theorem step_append_own {P : Program} {ops : Array Oper} {o : Oper} {a : Act} {w : World} {K : Act → World → Prop} {Q : Exit → Act → World → Prop} {E : Prop}
    (hg : o.guard = none) (s x : Operand) (t : TypeId) (ho : o.op = .call { callee := .builtin .append, args := #[s, x], argTypes := #[t, t] })
    (base : Nat) (e : TypeId) (i : TypeInfo) (z : Value) (size bytes : Nat) (ht : P.underlying t = some (.slice e)) (hi : P.info? e = some i) (hz : i.zero = some z)
    (hsize : i.size = size) (hby : i.bytes = bytes) (hzs : z.cells.size = size) (hsz : 0 < size)
    (v : Value) (n : Nat) (xs : List Value) (hs : a.eval s = v) (hown : w.ownsRow base e size v n xs)
    (ad : Addr) (m c : Nat) (news : List Value) (hx : a.eval x = .slice (some ad) m c) (hl : news.length = m * size) (hnews : ∀ j u, news[j]? = some u → w.cell? (ad.add j) = some u) (h1 : ∀ u ∈ news, u.oneCell' = true)
    (h63 : n + m ≤ maxLen) (hbytes : (n + m) * bytes ≤ 140737488355328) (hbase : base ≤ w.heap.size)
    (h : ∀ v' w', w'.ownsRow base e size v' (n + m) (xs ++ news) → w.grownBy w' v.ownBlock → (v' = .slice none 0 0 ↔ v = .slice none 0 0 ∧ m = 0) → K (a.put o.dst v') w') :
    if Region.wanted o (yielded ops a.tmps) = true then Oper.wp P o a w K Q else E := by
  have hw : Region.wanted o (yielded ops a.tmps) = true := by simp [Region.wanted, hg]
  rw [if_pos hw]
  exact wp_append_own (P := P) w s x t ho base e i z size bytes ht hi hz hsize hby hzs hsz v n xs hs hown ad m c news hx hl hnews h1 h63 hbytes hbase h

def vcells (m : ByteArray) : List Value := [.int .i64 1002, .string m, .slice none 0 0]
def vsCells (ms : List ByteArray) : List Value := ms.flatMap vcells
theorem vsCells_snoc (ms : List ByteArray) (m : ByteArray) : vsCells (ms ++ [m]) = vsCells ms ++ vcells m := by simp [vsCells]
theorem Try.info47 : (Try.prog.info? 47).map (fun i => (i.zero, i.size, i.bytes)) = some (some (.agg #[.int .i64 0, .string ByteArray.empty, .slice none 0 0]), 3, 48) := by kernel_rfl

/-- A Checker in block b that holds the violations of the messages ms. -/
structure Chk (b : Nat) (ms : List ByteArray) (w : World) : Prop where
  val : ∃ (a : Option Addr) (cap : Nat), w.cell? ⟨b, 0, none⟩ = some (.slice a ms.length cap) ∧ w.ownsRow (b + 1) 47 3 (.slice a ms.length cap) ms.length (vsCells ms)
  free : w.frozen? ⟨b, 0, none⟩ = false
theorem Chk.lt {b : Nat} {ms : List ByteArray} {w : World} (h : Chk b ms w) : b < w.heap.size := by
  obtain ⟨a, cap, h1, _⟩ := h.val
  exact World.block_lt_of_cell? w ⟨b, 0, none⟩ h1

theorem cell_three_lit (w : World) (x y z : Value) (t : TypeId) : ∀ j u, [x, y, z][j]? = some u → (w.alloc (.cells #[x, y, z] t)).cell? ((⟨w.heap.size, 0, none⟩ : Addr).add j) = some u := by
  intro j u hj
  match j, hj with
  | 0, hj => simp at hj; subst hj; rw [Addr.add_lit, World.cell?_alloc_new]; rfl
  | 1, hj => simp at hj; subst hj; rw [Addr.add_lit, World.cell?_alloc_new]; rfl
  | 2, hj => simp at hj; subst hj; rw [Addr.add_lit, World.cell?_alloc_new]; rfl
  | j + 3, hj => simp at hj

theorem own_form {w : World} {base : Nat} {e : TypeId} {size : Nat} {v : Value} {n : Nat} {xs : List Value} (h : w.ownsRow base e size v n xs) (hn : 1 ≤ n) : ∃ g cap, v = .slice (some ⟨g, 0, none⟩) n cap := by
  rcases h.2 with ⟨_, h⟩ | ⟨g, cap, _, h, _⟩
  · omega
  · exact ⟨g, cap, h⟩

set_option maxRecDepth 100000 in
set_option maxHeartbeats 1000000 in
theorem report_any (b : Nat) (ms : List ByteArray) (m : ByteArray) (w : World) (hc : Chk b ms w) (hn : ms.length ≤ 100) :
    Calls Try.prog 25 #[.pointer (some ⟨b, 0, none⟩), .int .i64 1002, .agg #[.slice none 0 0], .string m] w fun e w' => e = .returned (.tuple #[]) ∧ Chk b (ms ++ [m]) w' ∧ Below b w w' := by
  obtain ⟨ti, hti, hy0, hy1, hy2⟩ := info_parts Try.info47
  have hlt := hc.lt
  obtain ⟨⟨a, cap, hcell, hown⟩, hfree⟩ := hc
  generalize hN : ms.length = N at *
  have HN := Bx.mk hN
  clear hN
  have hpath : (w.alloc (.cells #[.slice none 0 0] 44)).cell? ⟨w.heap.size, 0, none⟩ = some (.slice none 0 0) := by simp
  have hA : Below (b + 1) w (w.alloc (.cells #[.slice none 0 0] 44)) := (Below.refl _ _).alloc (by omega) _
  have hcell0 : (w.alloc (.cells #[.slice none 0 0] 44)).cell? ⟨b, 0, none⟩ = some (.slice a N cap) := by rw [hA.cell (p := ⟨b, 0, none⟩) (Nat.lt_succ_self b)]; exact hcell
  have hfree0 : (w.alloc (.cells #[.slice none 0 0] 44)).frozen? ⟨b, 0, none⟩ = false := by rw [hA.frozen (p := ⟨b, 0, none⟩) (Nat.lt_succ_self b)]; exact hfree
  have HO := Bx.mk (hown.alloc (.cells #[.slice none 0 0] 44))
  have hP : w.heap.size < (w.alloc (.cells #[.slice none 0 0] 44)).heap.size := by simp
  have hbl : b + 1 ≤ (w.alloc (.cells #[.slice none 0 0] 44)).heap.size := by simp; omega
  have hrow := Bx.mk (fun k hk => (hown.lt k hk).1)
  clear hown hcell hfree
  go_enter Try.func25, Try.ntmps25
  go_wp2
  generalize w.alloc (.cells #[.slice none 0 0] 44) = W0 at *
  have hb0 : b < W0.heap.size := by omega
  go_region_law (refine step_append_own rfl (.tmp 12) (.tmp 17) 27 rfl (b + 1) 47 ti (.agg #[.int .i64 0, .string ByteArray.empty, .slice none 0 0]) 3 48 Try.underlying27 hti hy0 hy1 hy2 rfl (by decide) (.slice a N cap) N (vsCells ms) (by simp [Act.eval]) (by exact (HO.out.alloc _)) ⟨W0.heap.size, 0, none⟩ 1 1 (vcells m) (by simp [Act.eval]) rfl (by exact cell_three_lit _ _ _ _ _) (by intro u hu; simp [vcells] at hu; rcases hu with rfl | rfl | rfl <;> rfl) (by unfold maxLen; omega) (by omega) (by simp; omega) ?_; intro v1 w1 hown1 hg1 hnil1; obtain ⟨g1, cap1, rfl⟩ := own_form hown1 (by omega); have hB1 : Below (b + 1) W0 w1 := Below.grown (by repeat (first | exact Below.refl _ _ | refine Below.drew ?_ | refine Below.alloc ?_ hbl _)) hg1 (by simp; omega) (fun k hk => hrow.out k hk); have hc1 : w1.cell? ⟨b, 0, none⟩ = some (.slice a N cap) := (hB1.cell (p := ⟨b, 0, none⟩) (Nat.lt_succ_self b)).trans hcell0; have hf1 : w1.frozen? ⟨b, 0, none⟩ = false := (hB1.frozen (p := ⟨b, 0, none⟩) (Nat.lt_succ_self b)).trans hfree0; have HO1 := Bx.mk hown1; clear hown1 hg1 hnil1)
  all_goals
    go_wp2
    go_end0
    refine ⟨rfl, ⟨⟨some ⟨g1, 0, none⟩, cap1, ?_, ?_⟩, ?_⟩, ?_⟩
    · rw [List.length_append, HN.out]
      exact World.cell?_setCell_same _ _ _ hc1
    · rw [List.length_append, HN.out, vsCells_snoc]
      exact ownsRow_setCell_below HO1.out (Nat.lt_succ_self b) _
    · rw [World.frozen?_setCell]; exact hf1
    · exact ((hA.trans hB1).mono (Nat.le_succ b)).setCell (Nat.le_refl _) _
end Go.Proofs.Qxb6618968a
