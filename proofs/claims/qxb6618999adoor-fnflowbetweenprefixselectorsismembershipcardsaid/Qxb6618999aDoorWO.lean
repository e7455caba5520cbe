import Derived.Test.Qxb6618999aDoorWB
import Derived.WalkKit
import Derived.WalkSpells
import Derived.WalkLawsBesides
import Derived.Laws.NewBlocks
import Derived.Laws.Bits64b
import Derived.Laws.Shifts
import Derived.BigQuiet
import Derived.Below
import Derived.Deep.RegionWith
import Derived.Deep.DeepCutAuto
import Derived.Test.Qxb6618999aDoorBoxb
import Derived.Test.Qxb6618999aDoorWN
import Derived.Test.Qxb6618999aDoorWK
namespace Go.Proofs.Qxb6618999aDoor
open Go Go.RowKit
set_option linter.unusedVariables false
set_option linter.unusedSimpArgs false
structure SX (w : World) (P R U V : List Value) (W : World) : Prop where
  bp : Box W w.heap.size P
  br : Box W (w.heap.size + 1) R
  bu : Box W (w.heap.size + 2) U
  bv : Box W (w.heap.size + 3) V
  bel : Below w.heap.size w W
theorem SX.after {w : World} {P R U V : List Value} {W W1 : World} (hb : Below W.heap.size W W1) (h : SX w P R U V W) : SX w P R U V W1 :=
  ⟨Box.after hb h.bp, Box.after hb h.br, Box.after hb h.bu, Box.after hb h.bv, h.bel.trans (hb.mono (Nat.le_of_lt h.bp.lt))⟩
theorem SX.drew {w : World} {P R U V : List Value} {W : World} (h : SX w P R U V W) : SX w P R U V W.drew :=
  ⟨h.bp.drew, h.br.drew, h.bu.drew, h.bv.drew, h.bel.drew⟩
theorem shift_law (x p : Int) (h : Nat) : (decide (281470681743360 + (p - p % 2 ^ h) ≤ 281470681743360 + x) && decide (281470681743360 + x ≤ 281470681743360 + (p - p % 2 ^ h + (2 ^ h - 1)))) = inpB x p h := by
  rw [← range_law x p h]
  congr 1 <;> rw [decide_eq_decide] <;> omega
theorem inp_any (x p n : Int) (h0 : 0 ≤ n) (h1 : n ≤ 32) (hx0 : 0 ≤ x) (hx1 : x < 4294967296) (hp0 : 0 ≤ p) (hp1 : p < 4294967296) (v : Bool) (hv : inpB x p (32 - n).toNat = v) (w : World) :
    Calls Tryd.prog 6 #[.int .u32 x, .int .u32 p, .int .i64 n] w fun e w' => e = .returned (.bool v) ∧ Below w.heap.size w w' := by
  subst hv
  rcases Int.lt_or_le 0 n with h | h
  · exact inp_pos x p n h h1 hx0 hx1 hp0 hp1 w
  · have e : n = 0 := by omega
    subst e
    exact inp_zero x p hx0 hx1 hp0 hp1 w
def FlowAny : Prop := ∀ (a : Addr) (eb cp ec cq : Nat) (s t s' t' p0 p1 p2 p3 r0 r1 r2 r3 pr po qo : Int) (pd : Bool) (hp0 : 0 ≤ p0) (kp0 : p0 < 256) (hp1 : 0 ≤ p1) (kp1 : p1 < 256) (hp2 : 0 ≤ p2) (kp2 : p2 < 256) (hp3 : 0 ≤ p3) (kp3 : p3 < 256) (hr0 : 0 ≤ r0) (kr0 : r0 < 256) (hr1 : 0 ≤ r1) (kr1 : r1 < 256) (hr2 : 0 ≤ r2) (kr2 : r2 < 256) (hr3 : 0 ≤ r3) (kr3 : r3 < 256) (w : World) (g : GW a w) (E1 : Bx (Box w eb [.int .u64 0, .int .u64 (s), .pointer (some a), .int .u64 0, .int .u64 (t), .pointer (some a), .int .u8 0, .int .u16 0, .int .u16 65535])) (E2 : Bx (Box w ec [.int .u64 0, .int .u64 (s'), .pointer (some a), .int .u64 0, .int .u64 (t'), .pointer (some a), .int .u8 0, .int .u16 0, .int .u16 65535])) , Calls Tryd.prog 5 #[.agg #[.int .u8 p0, .int .u8 p1, .int .u8 p2, .int .u8 p3], .agg #[.int .u8 r0, .int .u8 r1, .int .u8 r2, .int .u8 r3], .int .u8 pr, .int .u16 po, .int .u16 qo, .bool pd, .slice (some ⟨eb, 0, none⟩) 1 cp, .slice (some ⟨ec, 0, none⟩) 1 cq] w fun e w' => e = .returned (.bool ((decide (s ≤ 281470681743360 + be p0 p1 p2 p3) && decide (281470681743360 + be p0 p1 p2 p3 ≤ t)) && (decide (s' ≤ 281470681743360 + be r0 r1 r2 r3) && decide (281470681743360 + be r0 r1 r2 r3 ≤ t')))) ∧ Below w.heap.size w w'
set_option maxHeartbeats 8000000 in
set_option maxRecDepth 100000 in
theorem main_true_true (FA : FlowAny) (a : Addr) (p0 p1 p2 p3 r0 r1 r2 r3 u0 u1 u2 u3 v0 v1 v2 v3 pr po qo m n : Int) (pd : Bool) (hp0 : 0 ≤ p0) (kp0 : p0 < 256) (hp1 : 0 ≤ p1) (kp1 : p1 < 256) (hp2 : 0 ≤ p2) (kp2 : p2 < 256) (hp3 : 0 ≤ p3) (kp3 : p3 < 256) (hr0 : 0 ≤ r0) (kr0 : r0 < 256) (hr1 : 0 ≤ r1) (kr1 : r1 < 256) (hr2 : 0 ≤ r2) (kr2 : r2 < 256) (hr3 : 0 ≤ r3) (kr3 : r3 < 256) (hu0 : 0 ≤ u0) (ku0 : u0 < 256) (hu1 : 0 ≤ u1) (ku1 : u1 < 256) (hu2 : 0 ≤ u2) (ku2 : u2 < 256) (hu3 : 0 ≤ u3) (ku3 : u3 < 256) (hv0 : 0 ≤ v0) (kv0 : v0 < 256) (hv1 : 0 ≤ v1) (kv1 : v1 < 256) (hv2 : 0 ≤ v2) (kv2 : v2 < 256) (hv3 : 0 ≤ v3) (kv3 : v3 < 256) (hm0 : 0 ≤ m) (hm1 : m ≤ 32) (hn0 : 0 ≤ n) (hn1 : n ≤ 32) (hI1 : inpB (be p0 p1 p2 p3) (be u0 u1 u2 u3) (32 - m).toNat = true) (hI2 : inpB (be r0 r1 r2 r3) (be v0 v1 v2 v3) (32 - n).toNat = true) (w : World) (g : GW a w) :
    Calls Tryd.prog 3 #[.agg #[.int .u8 p0, .int .u8 p1, .int .u8 p2, .int .u8 p3], .agg #[.int .u8 r0, .int .u8 r1, .int .u8 r2, .int .u8 r3], .int .u8 pr, .int .u16 po, .int .u16 qo, .bool pd, .agg #[.int .u8 u0, .int .u8 u1, .int .u8 u2, .int .u8 u3], .int .i64 m, .agg #[.int .u8 v0, .int .u8 v1, .int .u8 v2, .int .u8 v3], .int .i64 n] w fun e w' => e = .returned (.bool true) ∧ Below w.heap.size w w' := by
  have q1 := g.z4
  have q2 := g.z0
  have q6 := g.lt
  have q3 : 0 < w.heap.size := by omega
  have q4 : 1 < w.heap.size := by omega
  have q5 : 2 < w.heap.size := by omega
  clear q6
  have hh29 := held29
  have hg29 := guard29
  have he1 := eqSame a
  have he2 := eqNil a
  have Bp0' : Bx (Box ((((w.alloc (.cells #[.int .u8 p0, .int .u8 p1, .int .u8 p2, .int .u8 p3] 22)).alloc (.cells #[.int .u8 r0, .int .u8 r1, .int .u8 r2, .int .u8 r3] 22)).alloc (.cells #[.int .u8 u0, .int .u8 u1, .int .u8 u2, .int .u8 u3] 22)).alloc (.cells #[.int .u8 v0, .int .u8 v1, .int .u8 v2, .int .u8 v3] 22)) (w.heap.size) [.int .u8 p0, .int .u8 p1, .int .u8 p2, .int .u8 p3]) := ⟨by repeat' (first | (with_reducible exact Box.new _ _ _) | ((with_reducible refine Box.new' _ _ _ ?_ ?_) <;> simp; done) | (with_reducible refine Box.alloc ?_ _))⟩
  have Br0' : Bx (Box ((((w.alloc (.cells #[.int .u8 p0, .int .u8 p1, .int .u8 p2, .int .u8 p3] 22)).alloc (.cells #[.int .u8 r0, .int .u8 r1, .int .u8 r2, .int .u8 r3] 22)).alloc (.cells #[.int .u8 u0, .int .u8 u1, .int .u8 u2, .int .u8 u3] 22)).alloc (.cells #[.int .u8 v0, .int .u8 v1, .int .u8 v2, .int .u8 v3] 22)) (w.heap.size + 1) [.int .u8 r0, .int .u8 r1, .int .u8 r2, .int .u8 r3]) := ⟨by repeat' (first | (with_reducible exact Box.new _ _ _) | ((with_reducible refine Box.new' _ _ _ ?_ ?_) <;> simp; done) | (with_reducible refine Box.alloc ?_ _))⟩
  have Bu0' : Bx (Box ((((w.alloc (.cells #[.int .u8 p0, .int .u8 p1, .int .u8 p2, .int .u8 p3] 22)).alloc (.cells #[.int .u8 r0, .int .u8 r1, .int .u8 r2, .int .u8 r3] 22)).alloc (.cells #[.int .u8 u0, .int .u8 u1, .int .u8 u2, .int .u8 u3] 22)).alloc (.cells #[.int .u8 v0, .int .u8 v1, .int .u8 v2, .int .u8 v3] 22)) (w.heap.size + 2) [.int .u8 u0, .int .u8 u1, .int .u8 u2, .int .u8 u3]) := ⟨by repeat' (first | (with_reducible exact Box.new _ _ _) | ((with_reducible refine Box.new' _ _ _ ?_ ?_) <;> simp; done) | (with_reducible refine Box.alloc ?_ _))⟩
  have Bv0' : Bx (Box ((((w.alloc (.cells #[.int .u8 p0, .int .u8 p1, .int .u8 p2, .int .u8 p3] 22)).alloc (.cells #[.int .u8 r0, .int .u8 r1, .int .u8 r2, .int .u8 r3] 22)).alloc (.cells #[.int .u8 u0, .int .u8 u1, .int .u8 u2, .int .u8 u3] 22)).alloc (.cells #[.int .u8 v0, .int .u8 v1, .int .u8 v2, .int .u8 v3] 22)) (w.heap.size + 3) [.int .u8 v0, .int .u8 v1, .int .u8 v2, .int .u8 v3]) := ⟨by repeat' (first | (with_reducible exact Box.new _ _ _) | ((with_reducible refine Box.new' _ _ _ ?_ ?_) <;> simp; done) | (with_reducible refine Box.alloc ?_ _))⟩
  have g0 : Bx (GW a ((((w.alloc (.cells #[.int .u8 p0, .int .u8 p1, .int .u8 p2, .int .u8 p3] 22)).alloc (.cells #[.int .u8 r0, .int .u8 r1, .int .u8 r2, .int .u8 r3] 22)).alloc (.cells #[.int .u8 u0, .int .u8 u1, .int .u8 u2, .int .u8 u3] 22)).alloc (.cells #[.int .u8 v0, .int .u8 v1, .int .u8 v2, .int .u8 v3] 22))) := ⟨(((g.alloc _).alloc _).alloc _).alloc _⟩
  have bw0 : Bx (Below w.heap.size w ((((w.alloc (.cells #[.int .u8 p0, .int .u8 p1, .int .u8 p2, .int .u8 p3] 22)).alloc (.cells #[.int .u8 r0, .int .u8 r1, .int .u8 r2, .int .u8 r3] 22)).alloc (.cells #[.int .u8 u0, .int .u8 u1, .int .u8 u2, .int .u8 u3] 22)).alloc (.cells #[.int .u8 v0, .int .u8 v1, .int .u8 v2, .int .u8 v3] 22))) := ⟨by repeat' (first | (with_reducible exact Below.refl _ _) | (with_reducible assumption) | (with_reducible refine Below.drewN' ?_ _) | (with_reducible refine Below.drew ?_) | (with_reducible refine Below.setCell ?_ ?_ _) | (with_reducible refine Below.alloc ?_ ?_ _) | omega | (simp <;> omega))⟩
  have bp := Bx.mk (be_bound p0 p1 p2 p3 hp0 kp0 hp1 kp1 hp2 kp2 hp3 kp3)
  have br := Bx.mk (be_bound r0 r1 r2 r3 hr0 kr0 hr1 kr1 hr2 kr2 hr3 kr3)
  have bu := Bx.mk (be_bound u0 u1 u2 u3 hu0 ku0 hu1 ku1 hu2 ku2 hu3 ku3)
  have bv := Bx.mk (be_bound v0 v1 v2 v3 hv0 kv0 hv1 kv1 hv2 kv2 hv3 kv3)
  have R1 := Bx.mk ((shift_law (be p0 p1 p2 p3) (be u0 u1 u2 u3) (32 - m).toNat).trans hI1)
  have R2 := Bx.mk ((shift_law (be r0 r1 r2 r3) (be v0 v1 v2 v3) (32 - n).toNat).trans hI2)
  have I1 := Bx.mk hI1
  have I2 := Bx.mk hI2
  clear hI1 hI2
  go_enter Tryd.func3, Tryd.ntmps3
  go_wp2_with fail
  generalize (((w.alloc (.cells #[.int .u8 p0, .int .u8 p1, .int .u8 p2, .int .u8 p3] 22)).alloc (.cells #[.int .u8 r0, .int .u8 r1, .int .u8 r2, .int .u8 r3] 22)).alloc (.cells #[.int .u8 u0, .int .u8 u1, .int .u8 u2, .int .u8 u3] 22)).alloc (.cells #[.int .u8 v0, .int .u8 v1, .int .u8 v2, .int .u8 v3] 22) = W0 at *
  clear q1 q2 q3 q4 q5 hh29 hg29 he1 he2
  refine (zzsel_any a u0 u1 u2 u3 m hu0 ku0 hu1 ku1 hu2 ku2 hu3 ku3 hm0 hm1 _ g0.out).mono ?_
  rintro e wa ⟨rfl, hb⟩
  have Bpa : Bx (Box wa (w.heap.size) [.int .u8 p0, .int .u8 p1, .int .u8 p2, .int .u8 p3]) := ⟨Box.after hb Bp0'.out⟩
  have Bra : Bx (Box wa (w.heap.size + 1) [.int .u8 r0, .int .u8 r1, .int .u8 r2, .int .u8 r3]) := ⟨Box.after hb Br0'.out⟩
  have Bua : Bx (Box wa (w.heap.size + 2) [.int .u8 u0, .int .u8 u1, .int .u8 u2, .int .u8 u3]) := ⟨Box.after hb Bu0'.out⟩
  have Bva : Bx (Box wa (w.heap.size + 3) [.int .u8 v0, .int .u8 v1, .int .u8 v2, .int .u8 v3]) := ⟨Box.after hb Bv0'.out⟩
  have ga : Bx (GW a wa) := ⟨GW.after hb g0.out⟩
  have bwa : Bx (Below w.heap.size w wa) := ⟨bw0.out.trans (hb.mono (Nat.le_of_lt Bp0'.out.lt))⟩
  clear hb Bp0' Br0' Bu0' Bv0' g0 bw0 
  have Bpb : Bx (Box (wa.alloc (.cells #[.int .u64 0, .int .u64 (281470681743360 + (be u0 u1 u2 u3 - be u0 u1 u2 u3 % 2 ^ (32 - m).toNat)), .pointer (some a), .int .u64 0, .int .u64 (281470681743360 + (be u0 u1 u2 u3 - be u0 u1 u2 u3 % 2 ^ (32 - m).toNat + (2 ^ (32 - m).toNat - 1))), .pointer (some a), .int .u8 0, .int .u16 0, .int .u16 65535] 33)) (w.heap.size) [.int .u8 p0, .int .u8 p1, .int .u8 p2, .int .u8 p3]) := ⟨Bpa.out.alloc _⟩
  have Brb : Bx (Box (wa.alloc (.cells #[.int .u64 0, .int .u64 (281470681743360 + (be u0 u1 u2 u3 - be u0 u1 u2 u3 % 2 ^ (32 - m).toNat)), .pointer (some a), .int .u64 0, .int .u64 (281470681743360 + (be u0 u1 u2 u3 - be u0 u1 u2 u3 % 2 ^ (32 - m).toNat + (2 ^ (32 - m).toNat - 1))), .pointer (some a), .int .u8 0, .int .u16 0, .int .u16 65535] 33)) (w.heap.size + 1) [.int .u8 r0, .int .u8 r1, .int .u8 r2, .int .u8 r3]) := ⟨Bra.out.alloc _⟩
  have Bub : Bx (Box (wa.alloc (.cells #[.int .u64 0, .int .u64 (281470681743360 + (be u0 u1 u2 u3 - be u0 u1 u2 u3 % 2 ^ (32 - m).toNat)), .pointer (some a), .int .u64 0, .int .u64 (281470681743360 + (be u0 u1 u2 u3 - be u0 u1 u2 u3 % 2 ^ (32 - m).toNat + (2 ^ (32 - m).toNat - 1))), .pointer (some a), .int .u8 0, .int .u16 0, .int .u16 65535] 33)) (w.heap.size + 2) [.int .u8 u0, .int .u8 u1, .int .u8 u2, .int .u8 u3]) := ⟨Bua.out.alloc _⟩
  have Bvb : Bx (Box (wa.alloc (.cells #[.int .u64 0, .int .u64 (281470681743360 + (be u0 u1 u2 u3 - be u0 u1 u2 u3 % 2 ^ (32 - m).toNat)), .pointer (some a), .int .u64 0, .int .u64 (281470681743360 + (be u0 u1 u2 u3 - be u0 u1 u2 u3 % 2 ^ (32 - m).toNat + (2 ^ (32 - m).toNat - 1))), .pointer (some a), .int .u8 0, .int .u16 0, .int .u16 65535] 33)) (w.heap.size + 3) [.int .u8 v0, .int .u8 v1, .int .u8 v2, .int .u8 v3]) := ⟨Bva.out.alloc _⟩
  have Eb : Bx (Box (wa.alloc (.cells #[.int .u64 0, .int .u64 (281470681743360 + (be u0 u1 u2 u3 - be u0 u1 u2 u3 % 2 ^ (32 - m).toNat)), .pointer (some a), .int .u64 0, .int .u64 (281470681743360 + (be u0 u1 u2 u3 - be u0 u1 u2 u3 % 2 ^ (32 - m).toNat + (2 ^ (32 - m).toNat - 1))), .pointer (some a), .int .u8 0, .int .u16 0, .int .u16 65535] 33)) (wa.heap.size) [.int .u64 0, .int .u64 (281470681743360 + (be u0 u1 u2 u3 - be u0 u1 u2 u3 % 2 ^ (32 - m).toNat)), .pointer (some a), .int .u64 0, .int .u64 (281470681743360 + (be u0 u1 u2 u3 - be u0 u1 u2 u3 % 2 ^ (32 - m).toNat + (2 ^ (32 - m).toNat - 1))), .pointer (some a), .int .u8 0, .int .u16 0, .int .u16 65535]) := ⟨Box.new wa #[.int .u64 0, .int .u64 (281470681743360 + (be u0 u1 u2 u3 - be u0 u1 u2 u3 % 2 ^ (32 - m).toNat)), .pointer (some a), .int .u64 0, .int .u64 (281470681743360 + (be u0 u1 u2 u3 - be u0 u1 u2 u3 % 2 ^ (32 - m).toNat + (2 ^ (32 - m).toNat - 1))), .pointer (some a), .int .u8 0, .int .u16 0, .int .u16 65535] 33⟩
  have gb : Bx (GW a (wa.alloc (.cells #[.int .u64 0, .int .u64 (281470681743360 + (be u0 u1 u2 u3 - be u0 u1 u2 u3 % 2 ^ (32 - m).toNat)), .pointer (some a), .int .u64 0, .int .u64 (281470681743360 + (be u0 u1 u2 u3 - be u0 u1 u2 u3 % 2 ^ (32 - m).toNat + (2 ^ (32 - m).toNat - 1))), .pointer (some a), .int .u8 0, .int .u16 0, .int .u16 65535] 33))) := ⟨ga.out.alloc _⟩
  have bwb : Bx (Below w.heap.size w (wa.alloc (.cells #[.int .u64 0, .int .u64 (281470681743360 + (be u0 u1 u2 u3 - be u0 u1 u2 u3 % 2 ^ (32 - m).toNat)), .pointer (some a), .int .u64 0, .int .u64 (281470681743360 + (be u0 u1 u2 u3 - be u0 u1 u2 u3 % 2 ^ (32 - m).toNat + (2 ^ (32 - m).toNat - 1))), .pointer (some a), .int .u8 0, .int .u16 0, .int .u16 65535] 33))) := ⟨bwa.out.alloc (Nat.le_of_lt Bpa.out.lt) _⟩
  clear Bpa Bra Bua Bva ga bwa 
  have c0 : (wa.alloc (.cells #[.int .u64 0, .int .u64 (281470681743360 + (be u0 u1 u2 u3 - be u0 u1 u2 u3 % 2 ^ (32 - m).toNat)), .pointer (some a), .int .u64 0, .int .u64 (281470681743360 + (be u0 u1 u2 u3 - be u0 u1 u2 u3 % 2 ^ (32 - m).toNat + (2 ^ (32 - m).toNat - 1))), .pointer (some a), .int .u8 0, .int .u16 0, .int .u16 65535] 33)).cell? ⟨w.heap.size + 3, 0, none⟩ = some (.int .u8 v0) := Bvb.out.cell 0 (by simp)
  have c1 : (wa.alloc (.cells #[.int .u64 0, .int .u64 (281470681743360 + (be u0 u1 u2 u3 - be u0 u1 u2 u3 % 2 ^ (32 - m).toNat)), .pointer (some a), .int .u64 0, .int .u64 (281470681743360 + (be u0 u1 u2 u3 - be u0 u1 u2 u3 % 2 ^ (32 - m).toNat + (2 ^ (32 - m).toNat - 1))), .pointer (some a), .int .u8 0, .int .u16 0, .int .u16 65535] 33)).cell? ⟨w.heap.size + 3, 1, none⟩ = some (.int .u8 v1) := Bvb.out.cell 1 (by simp)
  have c2 : (wa.alloc (.cells #[.int .u64 0, .int .u64 (281470681743360 + (be u0 u1 u2 u3 - be u0 u1 u2 u3 % 2 ^ (32 - m).toNat)), .pointer (some a), .int .u64 0, .int .u64 (281470681743360 + (be u0 u1 u2 u3 - be u0 u1 u2 u3 % 2 ^ (32 - m).toNat + (2 ^ (32 - m).toNat - 1))), .pointer (some a), .int .u8 0, .int .u16 0, .int .u16 65535] 33)).cell? ⟨w.heap.size + 3, 2, none⟩ = some (.int .u8 v2) := Bvb.out.cell 2 (by simp)
  have c3 : (wa.alloc (.cells #[.int .u64 0, .int .u64 (281470681743360 + (be u0 u1 u2 u3 - be u0 u1 u2 u3 % 2 ^ (32 - m).toNat)), .pointer (some a), .int .u64 0, .int .u64 (281470681743360 + (be u0 u1 u2 u3 - be u0 u1 u2 u3 % 2 ^ (32 - m).toNat + (2 ^ (32 - m).toNat - 1))), .pointer (some a), .int .u8 0, .int .u16 0, .int .u16 65535] 33)).cell? ⟨w.heap.size + 3, 3, none⟩ = some (.int .u8 v3) := Bvb.out.cell 3 (by simp)
  go_wp2_with fail
  generalize wa.alloc (.cells #[.int .u64 0, .int .u64 (281470681743360 + (be u0 u1 u2 u3 - be u0 u1 u2 u3 % 2 ^ (32 - m).toNat)), .pointer (some a), .int .u64 0, .int .u64 (281470681743360 + (be u0 u1 u2 u3 - be u0 u1 u2 u3 % 2 ^ (32 - m).toNat + (2 ^ (32 - m).toNat - 1))), .pointer (some a), .int .u8 0, .int .u16 0, .int .u16 65535] 33) = W1 at *
  generalize wa.heap.size = eb at *
  clear c0 c1 c2 c3
  refine (zzsel_any a v0 v1 v2 v3 n hv0 kv0 hv1 kv1 hv2 kv2 hv3 kv3 hn0 hn1 _ gb.out).mono ?_
  rintro e wc ⟨rfl, hb⟩
  have Bpc : Bx (Box wc (w.heap.size) [.int .u8 p0, .int .u8 p1, .int .u8 p2, .int .u8 p3]) := ⟨Box.after hb Bpb.out⟩
  have Brc : Bx (Box wc (w.heap.size + 1) [.int .u8 r0, .int .u8 r1, .int .u8 r2, .int .u8 r3]) := ⟨Box.after hb Brb.out⟩
  have Buc : Bx (Box wc (w.heap.size + 2) [.int .u8 u0, .int .u8 u1, .int .u8 u2, .int .u8 u3]) := ⟨Box.after hb Bub.out⟩
  have Bvc : Bx (Box wc (w.heap.size + 3) [.int .u8 v0, .int .u8 v1, .int .u8 v2, .int .u8 v3]) := ⟨Box.after hb Bvb.out⟩
  have gc : Bx (GW a wc) := ⟨GW.after hb gb.out⟩
  have bwc : Bx (Below w.heap.size w wc) := ⟨bwb.out.trans (hb.mono (Nat.le_of_lt Bpb.out.lt))⟩
  have Ec : Bx (Box wc (eb) [.int .u64 0, .int .u64 (281470681743360 + (be u0 u1 u2 u3 - be u0 u1 u2 u3 % 2 ^ (32 - m).toNat)), .pointer (some a), .int .u64 0, .int .u64 (281470681743360 + (be u0 u1 u2 u3 - be u0 u1 u2 u3 % 2 ^ (32 - m).toNat + (2 ^ (32 - m).toNat - 1))), .pointer (some a), .int .u8 0, .int .u16 0, .int .u16 65535]) := ⟨Box.after hb Eb.out⟩
  clear hb Bpb Brb Bub Bvb gb bwb Eb
  have Bpd : Bx (Box (wc.alloc (.cells #[.int .u64 0, .int .u64 (281470681743360 + (be v0 v1 v2 v3 - be v0 v1 v2 v3 % 2 ^ (32 - n).toNat)), .pointer (some a), .int .u64 0, .int .u64 (281470681743360 + (be v0 v1 v2 v3 - be v0 v1 v2 v3 % 2 ^ (32 - n).toNat + (2 ^ (32 - n).toNat - 1))), .pointer (some a), .int .u8 0, .int .u16 0, .int .u16 65535] 33)) (w.heap.size) [.int .u8 p0, .int .u8 p1, .int .u8 p2, .int .u8 p3]) := ⟨Bpc.out.alloc _⟩
  have Brd : Bx (Box (wc.alloc (.cells #[.int .u64 0, .int .u64 (281470681743360 + (be v0 v1 v2 v3 - be v0 v1 v2 v3 % 2 ^ (32 - n).toNat)), .pointer (some a), .int .u64 0, .int .u64 (281470681743360 + (be v0 v1 v2 v3 - be v0 v1 v2 v3 % 2 ^ (32 - n).toNat + (2 ^ (32 - n).toNat - 1))), .pointer (some a), .int .u8 0, .int .u16 0, .int .u16 65535] 33)) (w.heap.size + 1) [.int .u8 r0, .int .u8 r1, .int .u8 r2, .int .u8 r3]) := ⟨Brc.out.alloc _⟩
  have Bud : Bx (Box (wc.alloc (.cells #[.int .u64 0, .int .u64 (281470681743360 + (be v0 v1 v2 v3 - be v0 v1 v2 v3 % 2 ^ (32 - n).toNat)), .pointer (some a), .int .u64 0, .int .u64 (281470681743360 + (be v0 v1 v2 v3 - be v0 v1 v2 v3 % 2 ^ (32 - n).toNat + (2 ^ (32 - n).toNat - 1))), .pointer (some a), .int .u8 0, .int .u16 0, .int .u16 65535] 33)) (w.heap.size + 2) [.int .u8 u0, .int .u8 u1, .int .u8 u2, .int .u8 u3]) := ⟨Buc.out.alloc _⟩
  have Bvd : Bx (Box (wc.alloc (.cells #[.int .u64 0, .int .u64 (281470681743360 + (be v0 v1 v2 v3 - be v0 v1 v2 v3 % 2 ^ (32 - n).toNat)), .pointer (some a), .int .u64 0, .int .u64 (281470681743360 + (be v0 v1 v2 v3 - be v0 v1 v2 v3 % 2 ^ (32 - n).toNat + (2 ^ (32 - n).toNat - 1))), .pointer (some a), .int .u8 0, .int .u16 0, .int .u16 65535] 33)) (w.heap.size + 3) [.int .u8 v0, .int .u8 v1, .int .u8 v2, .int .u8 v3]) := ⟨Bvc.out.alloc _⟩
  have Ed : Bx (Box (wc.alloc (.cells #[.int .u64 0, .int .u64 (281470681743360 + (be v0 v1 v2 v3 - be v0 v1 v2 v3 % 2 ^ (32 - n).toNat)), .pointer (some a), .int .u64 0, .int .u64 (281470681743360 + (be v0 v1 v2 v3 - be v0 v1 v2 v3 % 2 ^ (32 - n).toNat + (2 ^ (32 - n).toNat - 1))), .pointer (some a), .int .u8 0, .int .u16 0, .int .u16 65535] 33)) (eb) [.int .u64 0, .int .u64 (281470681743360 + (be u0 u1 u2 u3 - be u0 u1 u2 u3 % 2 ^ (32 - m).toNat)), .pointer (some a), .int .u64 0, .int .u64 (281470681743360 + (be u0 u1 u2 u3 - be u0 u1 u2 u3 % 2 ^ (32 - m).toNat + (2 ^ (32 - m).toNat - 1))), .pointer (some a), .int .u8 0, .int .u16 0, .int .u16 65535]) := ⟨Ec.out.alloc _⟩
  have Fd : Bx (Box (wc.alloc (.cells #[.int .u64 0, .int .u64 (281470681743360 + (be v0 v1 v2 v3 - be v0 v1 v2 v3 % 2 ^ (32 - n).toNat)), .pointer (some a), .int .u64 0, .int .u64 (281470681743360 + (be v0 v1 v2 v3 - be v0 v1 v2 v3 % 2 ^ (32 - n).toNat + (2 ^ (32 - n).toNat - 1))), .pointer (some a), .int .u8 0, .int .u16 0, .int .u16 65535] 33)) (wc.heap.size) [.int .u64 0, .int .u64 (281470681743360 + (be v0 v1 v2 v3 - be v0 v1 v2 v3 % 2 ^ (32 - n).toNat)), .pointer (some a), .int .u64 0, .int .u64 (281470681743360 + (be v0 v1 v2 v3 - be v0 v1 v2 v3 % 2 ^ (32 - n).toNat + (2 ^ (32 - n).toNat - 1))), .pointer (some a), .int .u8 0, .int .u16 0, .int .u16 65535]) := ⟨Box.new wc #[.int .u64 0, .int .u64 (281470681743360 + (be v0 v1 v2 v3 - be v0 v1 v2 v3 % 2 ^ (32 - n).toNat)), .pointer (some a), .int .u64 0, .int .u64 (281470681743360 + (be v0 v1 v2 v3 - be v0 v1 v2 v3 % 2 ^ (32 - n).toNat + (2 ^ (32 - n).toNat - 1))), .pointer (some a), .int .u8 0, .int .u16 0, .int .u16 65535] 33⟩
  have gd : Bx (GW a (wc.alloc (.cells #[.int .u64 0, .int .u64 (281470681743360 + (be v0 v1 v2 v3 - be v0 v1 v2 v3 % 2 ^ (32 - n).toNat)), .pointer (some a), .int .u64 0, .int .u64 (281470681743360 + (be v0 v1 v2 v3 - be v0 v1 v2 v3 % 2 ^ (32 - n).toNat + (2 ^ (32 - n).toNat - 1))), .pointer (some a), .int .u8 0, .int .u16 0, .int .u16 65535] 33))) := ⟨gc.out.alloc _⟩
  have bwd : Bx (Below w.heap.size w (wc.alloc (.cells #[.int .u64 0, .int .u64 (281470681743360 + (be v0 v1 v2 v3 - be v0 v1 v2 v3 % 2 ^ (32 - n).toNat)), .pointer (some a), .int .u64 0, .int .u64 (281470681743360 + (be v0 v1 v2 v3 - be v0 v1 v2 v3 % 2 ^ (32 - n).toNat + (2 ^ (32 - n).toNat - 1))), .pointer (some a), .int .u8 0, .int .u16 0, .int .u16 65535] 33))) := ⟨bwc.out.alloc (Nat.le_of_lt Bpc.out.lt) _⟩
  clear Bpc Brc Buc Bvc gc bwc Ec
  have c0 : (wc.alloc (.cells #[.int .u64 0, .int .u64 (281470681743360 + (be v0 v1 v2 v3 - be v0 v1 v2 v3 % 2 ^ (32 - n).toNat)), .pointer (some a), .int .u64 0, .int .u64 (281470681743360 + (be v0 v1 v2 v3 - be v0 v1 v2 v3 % 2 ^ (32 - n).toNat + (2 ^ (32 - n).toNat - 1))), .pointer (some a), .int .u8 0, .int .u16 0, .int .u16 65535] 33)).cell? ⟨w.heap.size, 0, none⟩ = some (.int .u8 p0) := Bpd.out.cell 0 (by simp)
  have c1 : (wc.alloc (.cells #[.int .u64 0, .int .u64 (281470681743360 + (be v0 v1 v2 v3 - be v0 v1 v2 v3 % 2 ^ (32 - n).toNat)), .pointer (some a), .int .u64 0, .int .u64 (281470681743360 + (be v0 v1 v2 v3 - be v0 v1 v2 v3 % 2 ^ (32 - n).toNat + (2 ^ (32 - n).toNat - 1))), .pointer (some a), .int .u8 0, .int .u16 0, .int .u16 65535] 33)).cell? ⟨w.heap.size, 1, none⟩ = some (.int .u8 p1) := Bpd.out.cell 1 (by simp)
  have c2 : (wc.alloc (.cells #[.int .u64 0, .int .u64 (281470681743360 + (be v0 v1 v2 v3 - be v0 v1 v2 v3 % 2 ^ (32 - n).toNat)), .pointer (some a), .int .u64 0, .int .u64 (281470681743360 + (be v0 v1 v2 v3 - be v0 v1 v2 v3 % 2 ^ (32 - n).toNat + (2 ^ (32 - n).toNat - 1))), .pointer (some a), .int .u8 0, .int .u16 0, .int .u16 65535] 33)).cell? ⟨w.heap.size, 2, none⟩ = some (.int .u8 p2) := Bpd.out.cell 2 (by simp)
  have c3 : (wc.alloc (.cells #[.int .u64 0, .int .u64 (281470681743360 + (be v0 v1 v2 v3 - be v0 v1 v2 v3 % 2 ^ (32 - n).toNat)), .pointer (some a), .int .u64 0, .int .u64 (281470681743360 + (be v0 v1 v2 v3 - be v0 v1 v2 v3 % 2 ^ (32 - n).toNat + (2 ^ (32 - n).toNat - 1))), .pointer (some a), .int .u8 0, .int .u16 0, .int .u16 65535] 33)).cell? ⟨w.heap.size, 3, none⟩ = some (.int .u8 p3) := Bpd.out.cell 3 (by simp)
  have d0 : (wc.alloc (.cells #[.int .u64 0, .int .u64 (281470681743360 + (be v0 v1 v2 v3 - be v0 v1 v2 v3 % 2 ^ (32 - n).toNat)), .pointer (some a), .int .u64 0, .int .u64 (281470681743360 + (be v0 v1 v2 v3 - be v0 v1 v2 v3 % 2 ^ (32 - n).toNat + (2 ^ (32 - n).toNat - 1))), .pointer (some a), .int .u8 0, .int .u16 0, .int .u16 65535] 33)).cell? ⟨w.heap.size + 1, 0, none⟩ = some (.int .u8 r0) := Brd.out.cell 0 (by simp)
  have d1 : (wc.alloc (.cells #[.int .u64 0, .int .u64 (281470681743360 + (be v0 v1 v2 v3 - be v0 v1 v2 v3 % 2 ^ (32 - n).toNat)), .pointer (some a), .int .u64 0, .int .u64 (281470681743360 + (be v0 v1 v2 v3 - be v0 v1 v2 v3 % 2 ^ (32 - n).toNat + (2 ^ (32 - n).toNat - 1))), .pointer (some a), .int .u8 0, .int .u16 0, .int .u16 65535] 33)).cell? ⟨w.heap.size + 1, 1, none⟩ = some (.int .u8 r1) := Brd.out.cell 1 (by simp)
  have d2 : (wc.alloc (.cells #[.int .u64 0, .int .u64 (281470681743360 + (be v0 v1 v2 v3 - be v0 v1 v2 v3 % 2 ^ (32 - n).toNat)), .pointer (some a), .int .u64 0, .int .u64 (281470681743360 + (be v0 v1 v2 v3 - be v0 v1 v2 v3 % 2 ^ (32 - n).toNat + (2 ^ (32 - n).toNat - 1))), .pointer (some a), .int .u8 0, .int .u16 0, .int .u16 65535] 33)).cell? ⟨w.heap.size + 1, 2, none⟩ = some (.int .u8 r2) := Brd.out.cell 2 (by simp)
  have d3 : (wc.alloc (.cells #[.int .u64 0, .int .u64 (281470681743360 + (be v0 v1 v2 v3 - be v0 v1 v2 v3 % 2 ^ (32 - n).toNat)), .pointer (some a), .int .u64 0, .int .u64 (281470681743360 + (be v0 v1 v2 v3 - be v0 v1 v2 v3 % 2 ^ (32 - n).toNat + (2 ^ (32 - n).toNat - 1))), .pointer (some a), .int .u8 0, .int .u16 0, .int .u16 65535] 33)).cell? ⟨w.heap.size + 1, 3, none⟩ = some (.int .u8 r3) := Brd.out.cell 3 (by simp)
  go_wp2_with fail
  generalize wc.alloc (.cells #[.int .u64 0, .int .u64 (281470681743360 + (be v0 v1 v2 v3 - be v0 v1 v2 v3 % 2 ^ (32 - n).toNat)), .pointer (some a), .int .u64 0, .int .u64 (281470681743360 + (be v0 v1 v2 v3 - be v0 v1 v2 v3 % 2 ^ (32 - n).toNat + (2 ^ (32 - n).toNat - 1))), .pointer (some a), .int .u8 0, .int .u16 0, .int .u16 65535] 33) = W2 at *
  generalize wc.heap.size = ec at *
  refine (FA a eb 1 ec 1 _ _ _ _ p0 p1 p2 p3 r0 r1 r2 r3 pr po qo pd hp0 kp0 hp1 kp1 hp2 kp2 hp3 kp3 hr0 kr0 hr1 kr1 hr2 kr2 hr3 kr3 _ gd.out Ed Fd).mono ?_
  rw [R1.out, R2.out]
  rintro e we ⟨rfl, hb⟩
  clear c0 c1 c2 c3 d0 d1 d2 d3
  have Bpe : Bx (Box we (w.heap.size) [.int .u8 p0, .int .u8 p1, .int .u8 p2, .int .u8 p3]) := ⟨Box.after hb Bpd.out⟩
  have Bre : Bx (Box we (w.heap.size + 1) [.int .u8 r0, .int .u8 r1, .int .u8 r2, .int .u8 r3]) := ⟨Box.after hb Brd.out⟩
  have Bue : Bx (Box we (w.heap.size + 2) [.int .u8 u0, .int .u8 u1, .int .u8 u2, .int .u8 u3]) := ⟨Box.after hb Bud.out⟩
  have Bve : Bx (Box we (w.heap.size + 3) [.int .u8 v0, .int .u8 v1, .int .u8 v2, .int .u8 v3]) := ⟨Box.after hb Bvd.out⟩
  have ge : Bx (GW a we) := ⟨GW.after hb gd.out⟩
  have bwe : Bx (Below w.heap.size w we) := ⟨bwd.out.trans (hb.mono (Nat.le_of_lt Bpd.out.lt))⟩
  have Ee : Bx (Box we (eb) [.int .u64 0, .int .u64 (281470681743360 + (be u0 u1 u2 u3 - be u0 u1 u2 u3 % 2 ^ (32 - m).toNat)), .pointer (some a), .int .u64 0, .int .u64 (281470681743360 + (be u0 u1 u2 u3 - be u0 u1 u2 u3 % 2 ^ (32 - m).toNat + (2 ^ (32 - m).toNat - 1))), .pointer (some a), .int .u8 0, .int .u16 0, .int .u16 65535]) := ⟨Box.after hb Ed.out⟩
  have Fe : Bx (Box we (ec) [.int .u64 0, .int .u64 (281470681743360 + (be v0 v1 v2 v3 - be v0 v1 v2 v3 % 2 ^ (32 - n).toNat)), .pointer (some a), .int .u64 0, .int .u64 (281470681743360 + (be v0 v1 v2 v3 - be v0 v1 v2 v3 % 2 ^ (32 - n).toNat + (2 ^ (32 - n).toNat - 1))), .pointer (some a), .int .u8 0, .int .u16 0, .int .u16 65535]) := ⟨Box.after hb Fd.out⟩
  clear hb Bpd Brd Bud Bvd gd bwd Ed Fd
  have c0 : we.cell? ⟨w.heap.size, 0, none⟩ = some (.int .u8 p0) := Bpe.out.cell 0 (by simp)
  have c1 : we.cell? ⟨w.heap.size, 1, none⟩ = some (.int .u8 p1) := Bpe.out.cell 1 (by simp)
  have c2 : we.cell? ⟨w.heap.size, 2, none⟩ = some (.int .u8 p2) := Bpe.out.cell 2 (by simp)
  have c3 : we.cell? ⟨w.heap.size, 3, none⟩ = some (.int .u8 p3) := Bpe.out.cell 3 (by simp)
  have d0 : we.cell? ⟨w.heap.size + 1, 0, none⟩ = some (.int .u8 r0) := Bre.out.cell 0 (by simp)
  have d1 : we.cell? ⟨w.heap.size + 1, 1, none⟩ = some (.int .u8 r1) := Bre.out.cell 1 (by simp)
  have d2 : we.cell? ⟨w.heap.size + 1, 2, none⟩ = some (.int .u8 r2) := Bre.out.cell 2 (by simp)
  have d3 : we.cell? ⟨w.heap.size + 1, 3, none⟩ = some (.int .u8 r3) := Bre.out.cell 3 (by simp)
  go_wp2_with fail
  refine (FA a ec 1 eb 1 _ _ _ _ r0 r1 r2 r3 p0 p1 p2 p3 pr qo po pd hr0 kr0 hr1 kr1 hr2 kr2 hr3 kr3 hp0 kp0 hp1 kp1 hp2 kp2 hp3 kp3 _ ge.out Fe Ee).mono ?_
  rw [R1.out, R2.out]
  rintro e wf ⟨rfl, hb⟩
  clear c0 c1 c2 c3 d0 d1 d2 d3
  have Bpf : Bx (Box wf (w.heap.size) [.int .u8 p0, .int .u8 p1, .int .u8 p2, .int .u8 p3]) := ⟨Box.after hb Bpe.out⟩
  have Brf : Bx (Box wf (w.heap.size + 1) [.int .u8 r0, .int .u8 r1, .int .u8 r2, .int .u8 r3]) := ⟨Box.after hb Bre.out⟩
  have Buf : Bx (Box wf (w.heap.size + 2) [.int .u8 u0, .int .u8 u1, .int .u8 u2, .int .u8 u3]) := ⟨Box.after hb Bue.out⟩
  have Bvf : Bx (Box wf (w.heap.size + 3) [.int .u8 v0, .int .u8 v1, .int .u8 v2, .int .u8 v3]) := ⟨Box.after hb Bve.out⟩
  have gf : Bx (GW a wf) := ⟨GW.after hb ge.out⟩
  have bwf : Bx (Below w.heap.size w wf) := ⟨bwe.out.trans (hb.mono (Nat.le_of_lt Bpe.out.lt))⟩
  have Ef : Bx (Box wf (eb) [.int .u64 0, .int .u64 (281470681743360 + (be u0 u1 u2 u3 - be u0 u1 u2 u3 % 2 ^ (32 - m).toNat)), .pointer (some a), .int .u64 0, .int .u64 (281470681743360 + (be u0 u1 u2 u3 - be u0 u1 u2 u3 % 2 ^ (32 - m).toNat + (2 ^ (32 - m).toNat - 1))), .pointer (some a), .int .u8 0, .int .u16 0, .int .u16 65535]) := ⟨Box.after hb Ee.out⟩
  have Ff : Bx (Box wf (ec) [.int .u64 0, .int .u64 (281470681743360 + (be v0 v1 v2 v3 - be v0 v1 v2 v3 % 2 ^ (32 - n).toNat)), .pointer (some a), .int .u64 0, .int .u64 (281470681743360 + (be v0 v1 v2 v3 - be v0 v1 v2 v3 % 2 ^ (32 - n).toNat + (2 ^ (32 - n).toNat - 1))), .pointer (some a), .int .u8 0, .int .u16 0, .int .u16 65535]) := ⟨Box.after hb Fe.out⟩
  clear hb Bpe Bre Bue Bve ge bwe Ee Fe
  clear Ef Ff R1 R2 gf
  have Sk : Bx (SX w [.int .u8 p0, .int .u8 p1, .int .u8 p2, .int .u8 p3] [.int .u8 r0, .int .u8 r1, .int .u8 r2, .int .u8 r3] [.int .u8 u0, .int .u8 u1, .int .u8 u2, .int .u8 u3] [.int .u8 v0, .int .u8 v1, .int .u8 v2, .int .u8 v3] wf) := ⟨⟨Bpf.out, Brf.out, Buf.out, Bvf.out, bwf.out⟩⟩
  clear Bpf Brf Buf Bvf bwf
  go_upto_region 7 with fail
  go_cut [25] (fun s25 wx => s25 = .bool true ∧ Bx (Below w.heap.size w wx))
  case first =>
    have Sk := Bx.mk Sk.out.drew
    have c0 : wf.drew.cell? ⟨w.heap.size, 0, none⟩ = some (.int .u8 p0) := Sk.out.bp.cell 0 (by simp)
    have c1 : wf.drew.cell? ⟨w.heap.size, 1, none⟩ = some (.int .u8 p1) := Sk.out.bp.cell 1 (by simp)
    have c2 : wf.drew.cell? ⟨w.heap.size, 2, none⟩ = some (.int .u8 p2) := Sk.out.bp.cell 2 (by simp)
    have c3 : wf.drew.cell? ⟨w.heap.size, 3, none⟩ = some (.int .u8 p3) := Sk.out.bp.cell 3 (by simp)
    have c4 : wf.drew.cell? ⟨w.heap.size + 1, 0, none⟩ = some (.int .u8 r0) := Sk.out.br.cell 0 (by simp)
    have c5 : wf.drew.cell? ⟨w.heap.size + 1, 1, none⟩ = some (.int .u8 r1) := Sk.out.br.cell 1 (by simp)
    have c6 : wf.drew.cell? ⟨w.heap.size + 1, 2, none⟩ = some (.int .u8 r2) := Sk.out.br.cell 2 (by simp)
    have c7 : wf.drew.cell? ⟨w.heap.size + 1, 3, none⟩ = some (.int .u8 r3) := Sk.out.br.cell 3 (by simp)
    have c8 : wf.drew.cell? ⟨w.heap.size + 2, 0, none⟩ = some (.int .u8 u0) := Sk.out.bu.cell 0 (by simp)
    have c9 : wf.drew.cell? ⟨w.heap.size + 2, 1, none⟩ = some (.int .u8 u1) := Sk.out.bu.cell 1 (by simp)
    have c10 : wf.drew.cell? ⟨w.heap.size + 2, 2, none⟩ = some (.int .u8 u2) := Sk.out.bu.cell 2 (by simp)
    have c11 : wf.drew.cell? ⟨w.heap.size + 2, 3, none⟩ = some (.int .u8 u3) := Sk.out.bu.cell 3 (by simp)
    have c12 : wf.drew.cell? ⟨w.heap.size + 3, 0, none⟩ = some (.int .u8 v0) := Sk.out.bv.cell 0 (by simp)
    have c13 : wf.drew.cell? ⟨w.heap.size + 3, 1, none⟩ = some (.int .u8 v1) := Sk.out.bv.cell 1 (by simp)
    have c14 : wf.drew.cell? ⟨w.heap.size + 3, 2, none⟩ = some (.int .u8 v2) := Sk.out.bv.cell 2 (by simp)
    have c15 : wf.drew.cell? ⟨w.heap.size + 3, 3, none⟩ = some (.int .u8 v3) := Sk.out.bv.cell 3 (by simp)
    go_region_with ((first | (go_at_call_of 7 p0; refine (be32_any p0 p1 p2 p3 hp0 kp0 hp1 kp1 hp2 kp2 hp3 kp3 _).mono ?_) | (go_at_call_of 7 r0; refine (be32_any r0 r1 r2 r3 hr0 kr0 hr1 kr1 hr2 kr2 hr3 kr3 _).mono ?_) | (go_at_call_of 7 u0; refine (be32_any u0 u1 u2 u3 hu0 ku0 hu1 ku1 hu2 ku2 hu3 ku3 _).mono ?_) | (go_at_call_of 7 v0; refine (be32_any v0 v1 v2 v3 hv0 kv0 hv1 kv1 hv2 kv2 hv3 kv3 _).mono ?_) | (go_at_call_of 6 m; refine (inp_any (be p0 p1 p2 p3) (be u0 u1 u2 u3) m hm0 hm1 bp.out.1 bp.out.2 bu.out.1 bu.out.2 true I1.out _).mono ?_) | (go_at_call_of 6 n; refine (inp_any (be r0 r1 r2 r3) (be v0 v1 v2 v3) n hn0 hn1 br.out.1 br.out.2 bv.out.1 bv.out.2 true I2.out _).mono ?_)); rintro e wk ⟨rfl, hb⟩; clear c0 c1 c2 c3 c4 c5 c6 c7 c8 c9 c10 c11 c12 c13 c14 c15; have Sk := Bx.mk (SX.after hb Sk.out); clear hb; have c0 : wk.cell? ⟨w.heap.size, 0, none⟩ = some (.int .u8 p0) := Sk.out.bp.cell 0 (by simp); have c1 : wk.cell? ⟨w.heap.size, 1, none⟩ = some (.int .u8 p1) := Sk.out.bp.cell 1 (by simp); have c2 : wk.cell? ⟨w.heap.size, 2, none⟩ = some (.int .u8 p2) := Sk.out.bp.cell 2 (by simp); have c3 : wk.cell? ⟨w.heap.size, 3, none⟩ = some (.int .u8 p3) := Sk.out.bp.cell 3 (by simp); have c4 : wk.cell? ⟨w.heap.size + 1, 0, none⟩ = some (.int .u8 r0) := Sk.out.br.cell 0 (by simp); have c5 : wk.cell? ⟨w.heap.size + 1, 1, none⟩ = some (.int .u8 r1) := Sk.out.br.cell 1 (by simp); have c6 : wk.cell? ⟨w.heap.size + 1, 2, none⟩ = some (.int .u8 r2) := Sk.out.br.cell 2 (by simp); have c7 : wk.cell? ⟨w.heap.size + 1, 3, none⟩ = some (.int .u8 r3) := Sk.out.br.cell 3 (by simp); have c8 : wk.cell? ⟨w.heap.size + 2, 0, none⟩ = some (.int .u8 u0) := Sk.out.bu.cell 0 (by simp); have c9 : wk.cell? ⟨w.heap.size + 2, 1, none⟩ = some (.int .u8 u1) := Sk.out.bu.cell 1 (by simp); have c10 : wk.cell? ⟨w.heap.size + 2, 2, none⟩ = some (.int .u8 u2) := Sk.out.bu.cell 2 (by simp); have c11 : wk.cell? ⟨w.heap.size + 2, 3, none⟩ = some (.int .u8 u3) := Sk.out.bu.cell 3 (by simp); have c12 : wk.cell? ⟨w.heap.size + 3, 0, none⟩ = some (.int .u8 v0) := Sk.out.bv.cell 0 (by simp); have c13 : wk.cell? ⟨w.heap.size + 3, 1, none⟩ = some (.int .u8 v1) := Sk.out.bv.cell 1 (by simp); have c14 : wk.cell? ⟨w.heap.size + 3, 2, none⟩ = some (.int .u8 v2) := Sk.out.bv.cell 2 (by simp); have c15 : wk.cell? ⟨w.heap.size + 3, 3, none⟩ = some (.int .u8 v3) := Sk.out.bv.cell 3 (by simp))
    all_goals (go_wp2_with fail; go_meet; exact ⟨rfl, ⟨Sk.out.bel⟩⟩)
  case rest =>
    obtain ⟨rfl, bwz⟩ := hcut
    clear Sk
    go_wp2
    go_ret
    exact ⟨rfl, bwz.out⟩

end Go.Proofs.Qxb6618999aDoor
