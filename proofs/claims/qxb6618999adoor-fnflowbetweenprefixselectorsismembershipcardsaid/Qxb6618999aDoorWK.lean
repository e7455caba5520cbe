import Derived.Test.Qxb6618999aDoorWB
import Derived.WalkKit
import Derived.WalkSpells
import Derived.WalkLawsBesides
import Derived.Laws.NewBlocks
import Derived.Laws.Bits64b
import Derived.Laws.Shifts
import Derived.BigQuiet
import Derived.Below
import Derived.Deep.RegionWith
import Derived.Deep.DeepCutAuto
import Derived.Test.Qxb6618999aDoorBoxb
import Derived.Test.Qxb6618999aDoorWJ
namespace Go.Proofs.Qxb6618999aDoor
open Go Go.RowKit
set_option linter.unusedVariables false
set_option linter.unusedSimpArgs false
set_option maxHeartbeats 8000000 in
set_option maxRecDepth 100000 in
theorem betFT (a : Addr) (eb cp ec cq : Nat) (s t s' t' x y pr po qo : Int) (pd : Bool) (h1 : (decide (s ≤ x) && decide (x ≤ t)) = false) (w : World) (g : GW a w) (E1 : Bx (Box w eb [.int .u64 0, .int .u64 (s), .pointer (some a), .int .u64 0, .int .u64 (t), .pointer (some a), .int .u8 0, .int .u16 0, .int .u16 65535])) (E2 : Bx (Box w ec [.int .u64 0, .int .u64 (s'), .pointer (some a), .int .u64 0, .int .u64 (t'), .pointer (some a), .int .u8 0, .int .u16 0, .int .u16 65535])) :
    Calls Tryd.prog 11 #[.agg #[.int .u64 0, .int .u64 (x), .pointer (some a), .int .u64 0, .int .u64 (y), .pointer (some a), .int .u8 pr, .int .u16 po, .int .u16 qo, .bool pd], .slice (some ⟨eb, 0, none⟩) 1 cp, .slice (some ⟨ec, 0, none⟩) 1 cq] w fun e w' => e = .returned (.bool false) ∧ Below w.heap.size w w' := by
  have F : Bx (Box (w.alloc (.cells #[.int .u64 0, .int .u64 (x), .pointer (some a), .int .u64 0, .int .u64 (y), .pointer (some a), .int .u8 pr, .int .u16 po, .int .u16 qo, .bool pd] 47)) (w.heap.size) [.int .u64 0, .int .u64 (x), .pointer (some a), .int .u64 0, .int .u64 (y), .pointer (some a), .int .u8 pr, .int .u16 po, .int .u16 qo, .bool pd]) := ⟨Box.new w #[.int .u64 0, .int .u64 (x), .pointer (some a), .int .u64 0, .int .u64 (y), .pointer (some a), .int .u8 pr, .int .u16 po, .int .u16 qo, .bool pd] 47⟩
  have g0 : Bx (GW a (w.alloc (.cells #[.int .u64 0, .int .u64 (x), .pointer (some a), .int .u64 0, .int .u64 (y), .pointer (some a), .int .u8 pr, .int .u16 po, .int .u16 qo, .bool pd] 47))) := ⟨g.alloc _⟩
  have E1' : Bx (Box (w.alloc (.cells #[.int .u64 0, .int .u64 (x), .pointer (some a), .int .u64 0, .int .u64 (y), .pointer (some a), .int .u8 pr, .int .u16 po, .int .u16 qo, .bool pd] 47)) eb [.int .u64 0, .int .u64 (s), .pointer (some a), .int .u64 0, .int .u64 (t), .pointer (some a), .int .u8 0, .int .u16 0, .int .u16 65535]) := ⟨E1.out.alloc _⟩
  have E2' : Bx (Box (w.alloc (.cells #[.int .u64 0, .int .u64 (x), .pointer (some a), .int .u64 0, .int .u64 (y), .pointer (some a), .int .u8 pr, .int .u16 po, .int .u16 qo, .bool pd] 47)) ec [.int .u64 0, .int .u64 (s'), .pointer (some a), .int .u64 0, .int .u64 (t'), .pointer (some a), .int .u8 0, .int .u16 0, .int .u16 65535]) := ⟨E2.out.alloc _⟩
  have bw0 : Bx (Below w.heap.size w (w.alloc (.cells #[.int .u64 0, .int .u64 (x), .pointer (some a), .int .u64 0, .int .u64 (y), .pointer (some a), .int .u8 pr, .int .u16 po, .int .u16 qo, .bool pd] 47))) := ⟨(Below.refl _ _).alloc (Nat.le_refl _) _⟩
  go_enter Tryd.func11, Tryd.ntmps11
  go_wp2_with fail
  generalize w.alloc (.cells #[.int .u64 0, .int .u64 (x), .pointer (some a), .int .u64 0, .int .u64 (y), .pointer (some a), .int .u8 pr, .int .u16 po, .int .u16 qo, .bool pd] 47) = W0 at *
  have lt0 : w.heap.size < W0.heap.size := F.out.lt
  refine (conF1 a (w.heap.size) eb cp s t x y pr po qo pd h1 _ g0.out F E1').mono ?_
  rintro e wa ⟨rfl, hb⟩
  have bwa : Bx (Below w.heap.size w wa) := ⟨bw0.out.trans (hb.mono (by omega))⟩
  go_wp2
  go_ret
  exact ⟨rfl, bwa.out⟩

set_option maxHeartbeats 8000000 in
set_option maxRecDepth 100000 in
theorem betTT (a : Addr) (eb cp ec cq : Nat) (s t s' t' x y pr po qo : Int) (pd : Bool) (h1 : (decide (s ≤ x) && decide (x ≤ t)) = true) (h2 : (decide (s' ≤ y) && decide (y ≤ t')) = true) (w : World) (g : GW a w) (E1 : Bx (Box w eb [.int .u64 0, .int .u64 (s), .pointer (some a), .int .u64 0, .int .u64 (t), .pointer (some a), .int .u8 0, .int .u16 0, .int .u16 65535])) (E2 : Bx (Box w ec [.int .u64 0, .int .u64 (s'), .pointer (some a), .int .u64 0, .int .u64 (t'), .pointer (some a), .int .u8 0, .int .u16 0, .int .u16 65535])) :
    Calls Tryd.prog 11 #[.agg #[.int .u64 0, .int .u64 (x), .pointer (some a), .int .u64 0, .int .u64 (y), .pointer (some a), .int .u8 pr, .int .u16 po, .int .u16 qo, .bool pd], .slice (some ⟨eb, 0, none⟩) 1 cp, .slice (some ⟨ec, 0, none⟩) 1 cq] w fun e w' => e = .returned (.bool true) ∧ Below w.heap.size w w' := by
  have F : Bx (Box (w.alloc (.cells #[.int .u64 0, .int .u64 (x), .pointer (some a), .int .u64 0, .int .u64 (y), .pointer (some a), .int .u8 pr, .int .u16 po, .int .u16 qo, .bool pd] 47)) (w.heap.size) [.int .u64 0, .int .u64 (x), .pointer (some a), .int .u64 0, .int .u64 (y), .pointer (some a), .int .u8 pr, .int .u16 po, .int .u16 qo, .bool pd]) := ⟨Box.new w #[.int .u64 0, .int .u64 (x), .pointer (some a), .int .u64 0, .int .u64 (y), .pointer (some a), .int .u8 pr, .int .u16 po, .int .u16 qo, .bool pd] 47⟩
  have g0 : Bx (GW a (w.alloc (.cells #[.int .u64 0, .int .u64 (x), .pointer (some a), .int .u64 0, .int .u64 (y), .pointer (some a), .int .u8 pr, .int .u16 po, .int .u16 qo, .bool pd] 47))) := ⟨g.alloc _⟩
  have E1' : Bx (Box (w.alloc (.cells #[.int .u64 0, .int .u64 (x), .pointer (some a), .int .u64 0, .int .u64 (y), .pointer (some a), .int .u8 pr, .int .u16 po, .int .u16 qo, .bool pd] 47)) eb [.int .u64 0, .int .u64 (s), .pointer (some a), .int .u64 0, .int .u64 (t), .pointer (some a), .int .u8 0, .int .u16 0, .int .u16 65535]) := ⟨E1.out.alloc _⟩
  have E2' : Bx (Box (w.alloc (.cells #[.int .u64 0, .int .u64 (x), .pointer (some a), .int .u64 0, .int .u64 (y), .pointer (some a), .int .u8 pr, .int .u16 po, .int .u16 qo, .bool pd] 47)) ec [.int .u64 0, .int .u64 (s'), .pointer (some a), .int .u64 0, .int .u64 (t'), .pointer (some a), .int .u8 0, .int .u16 0, .int .u16 65535]) := ⟨E2.out.alloc _⟩
  have bw0 : Bx (Below w.heap.size w (w.alloc (.cells #[.int .u64 0, .int .u64 (x), .pointer (some a), .int .u64 0, .int .u64 (y), .pointer (some a), .int .u8 pr, .int .u16 po, .int .u16 qo, .bool pd] 47))) := ⟨(Below.refl _ _).alloc (Nat.le_refl _) _⟩
  go_enter Tryd.func11, Tryd.ntmps11
  go_wp2_with fail
  generalize w.alloc (.cells #[.int .u64 0, .int .u64 (x), .pointer (some a), .int .u64 0, .int .u64 (y), .pointer (some a), .int .u8 pr, .int .u16 po, .int .u16 qo, .bool pd] 47) = W0 at *
  have lt0 : w.heap.size < W0.heap.size := F.out.lt
  refine (conT1 a (w.heap.size) eb cp s t x y pr po qo pd h1 _ g0.out F E1').mono ?_
  rintro e wa ⟨rfl, hb⟩
  have bwa : Bx (Below w.heap.size w wa) := ⟨bw0.out.trans (hb.mono (by omega))⟩
  have Fa : Bx (Box wa (w.heap.size) [.int .u64 0, .int .u64 (x), .pointer (some a), .int .u64 0, .int .u64 (y), .pointer (some a), .int .u8 pr, .int .u16 po, .int .u16 qo, .bool pd]) := ⟨Box.after hb F.out⟩
  have ga : Bx (GW a wa) := ⟨GW.after hb g0.out⟩
  have E2a : Bx (Box wa ec [.int .u64 0, .int .u64 (s'), .pointer (some a), .int .u64 0, .int .u64 (t'), .pointer (some a), .int .u8 0, .int .u16 0, .int .u16 65535]) := ⟨Box.after hb E2'.out⟩
  have lta := Fa.out.lt
  clear hb g0 E1' E2' bw0 F
  go_wp2_with fail
  refine (conT2 a (w.heap.size) ec cq s' t' x y pr po qo pd h2 _ ga.out Fa E2a).mono ?_
  rintro e wb ⟨rfl, hb⟩
  have bwb : Bx (Below w.heap.size w wb) := ⟨bwa.out.trans (hb.mono (by omega))⟩
  go_wp2
  go_ret
  exact ⟨rfl, bwb.out⟩

set_option maxHeartbeats 8000000 in
set_option maxRecDepth 100000 in
theorem betTF (a : Addr) (eb cp ec cq : Nat) (s t s' t' x y pr po qo : Int) (pd : Bool) (h1 : (decide (s ≤ x) && decide (x ≤ t)) = true) (h2 : (decide (s' ≤ y) && decide (y ≤ t')) = false) (w : World) (g : GW a w) (E1 : Bx (Box w eb [.int .u64 0, .int .u64 (s), .pointer (some a), .int .u64 0, .int .u64 (t), .pointer (some a), .int .u8 0, .int .u16 0, .int .u16 65535])) (E2 : Bx (Box w ec [.int .u64 0, .int .u64 (s'), .pointer (some a), .int .u64 0, .int .u64 (t'), .pointer (some a), .int .u8 0, .int .u16 0, .int .u16 65535])) :
    Calls Tryd.prog 11 #[.agg #[.int .u64 0, .int .u64 (x), .pointer (some a), .int .u64 0, .int .u64 (y), .pointer (some a), .int .u8 pr, .int .u16 po, .int .u16 qo, .bool pd], .slice (some ⟨eb, 0, none⟩) 1 cp, .slice (some ⟨ec, 0, none⟩) 1 cq] w fun e w' => e = .returned (.bool false) ∧ Below w.heap.size w w' := by
  have F : Bx (Box (w.alloc (.cells #[.int .u64 0, .int .u64 (x), .pointer (some a), .int .u64 0, .int .u64 (y), .pointer (some a), .int .u8 pr, .int .u16 po, .int .u16 qo, .bool pd] 47)) (w.heap.size) [.int .u64 0, .int .u64 (x), .pointer (some a), .int .u64 0, .int .u64 (y), .pointer (some a), .int .u8 pr, .int .u16 po, .int .u16 qo, .bool pd]) := ⟨Box.new w #[.int .u64 0, .int .u64 (x), .pointer (some a), .int .u64 0, .int .u64 (y), .pointer (some a), .int .u8 pr, .int .u16 po, .int .u16 qo, .bool pd] 47⟩
  have g0 : Bx (GW a (w.alloc (.cells #[.int .u64 0, .int .u64 (x), .pointer (some a), .int .u64 0, .int .u64 (y), .pointer (some a), .int .u8 pr, .int .u16 po, .int .u16 qo, .bool pd] 47))) := ⟨g.alloc _⟩
  have E1' : Bx (Box (w.alloc (.cells #[.int .u64 0, .int .u64 (x), .pointer (some a), .int .u64 0, .int .u64 (y), .pointer (some a), .int .u8 pr, .int .u16 po, .int .u16 qo, .bool pd] 47)) eb [.int .u64 0, .int .u64 (s), .pointer (some a), .int .u64 0, .int .u64 (t), .pointer (some a), .int .u8 0, .int .u16 0, .int .u16 65535]) := ⟨E1.out.alloc _⟩
  have E2' : Bx (Box (w.alloc (.cells #[.int .u64 0, .int .u64 (x), .pointer (some a), .int .u64 0, .int .u64 (y), .pointer (some a), .int .u8 pr, .int .u16 po, .int .u16 qo, .bool pd] 47)) ec [.int .u64 0, .int .u64 (s'), .pointer (some a), .int .u64 0, .int .u64 (t'), .pointer (some a), .int .u8 0, .int .u16 0, .int .u16 65535]) := ⟨E2.out.alloc _⟩
  have bw0 : Bx (Below w.heap.size w (w.alloc (.cells #[.int .u64 0, .int .u64 (x), .pointer (some a), .int .u64 0, .int .u64 (y), .pointer (some a), .int .u8 pr, .int .u16 po, .int .u16 qo, .bool pd] 47))) := ⟨(Below.refl _ _).alloc (Nat.le_refl _) _⟩
  go_enter Tryd.func11, Tryd.ntmps11
  go_wp2_with fail
  generalize w.alloc (.cells #[.int .u64 0, .int .u64 (x), .pointer (some a), .int .u64 0, .int .u64 (y), .pointer (some a), .int .u8 pr, .int .u16 po, .int .u16 qo, .bool pd] 47) = W0 at *
  have lt0 : w.heap.size < W0.heap.size := F.out.lt
  refine (conT1 a (w.heap.size) eb cp s t x y pr po qo pd h1 _ g0.out F E1').mono ?_
  rintro e wa ⟨rfl, hb⟩
  have bwa : Bx (Below w.heap.size w wa) := ⟨bw0.out.trans (hb.mono (by omega))⟩
  have Fa : Bx (Box wa (w.heap.size) [.int .u64 0, .int .u64 (x), .pointer (some a), .int .u64 0, .int .u64 (y), .pointer (some a), .int .u8 pr, .int .u16 po, .int .u16 qo, .bool pd]) := ⟨Box.after hb F.out⟩
  have ga : Bx (GW a wa) := ⟨GW.after hb g0.out⟩
  have E2a : Bx (Box wa ec [.int .u64 0, .int .u64 (s'), .pointer (some a), .int .u64 0, .int .u64 (t'), .pointer (some a), .int .u8 0, .int .u16 0, .int .u16 65535]) := ⟨Box.after hb E2'.out⟩
  have lta := Fa.out.lt
  clear hb g0 E1' E2' bw0 F
  go_wp2_with fail
  refine (conF2 a (w.heap.size) ec cq s' t' x y pr po qo pd h2 _ ga.out Fa E2a).mono ?_
  rintro e wb ⟨rfl, hb⟩
  have bwb : Bx (Below w.heap.size w wb) := ⟨bwa.out.trans (hb.mono (by omega))⟩
  go_wp2
  go_ret
  exact ⟨rfl, bwb.out⟩

theorem bet_any (a : Addr) (eb cp ec cq : Nat) (s t s' t' x y pr po qo : Int) (pd : Bool) (w : World) (g : GW a w) (E1 : Bx (Box w eb [.int .u64 0, .int .u64 (s), .pointer (some a), .int .u64 0, .int .u64 (t), .pointer (some a), .int .u8 0, .int .u16 0, .int .u16 65535])) (E2 : Bx (Box w ec [.int .u64 0, .int .u64 (s'), .pointer (some a), .int .u64 0, .int .u64 (t'), .pointer (some a), .int .u8 0, .int .u16 0, .int .u16 65535])) :
    Calls Tryd.prog 11 #[.agg #[.int .u64 0, .int .u64 (x), .pointer (some a), .int .u64 0, .int .u64 (y), .pointer (some a), .int .u8 pr, .int .u16 po, .int .u16 qo, .bool pd], .slice (some ⟨eb, 0, none⟩) 1 cp, .slice (some ⟨ec, 0, none⟩) 1 cq] w fun e w' => e = .returned (.bool ((decide (s ≤ x) && decide (x ≤ t)) && (decide (s' ≤ y) && decide (y ≤ t')))) ∧ Below w.heap.size w w' := by
  rcases Bool.eq_false_or_eq_true (decide (s ≤ x) && decide (x ≤ t)) with h1 | h1
  · rcases Bool.eq_false_or_eq_true (decide (s' ≤ y) && decide (y ≤ t')) with h2 | h2
    · rw [h1, h2]; exact betTT a eb cp ec cq s t s' t' x y pr po qo pd h1 h2 w g E1 E2
    · rw [h1, h2]; exact betTF a eb cp ec cq s t s' t' x y pr po qo pd h1 h2 w g E1 E2
  · rw [h1]; exact betFT a eb cp ec cq s t s' t' x y pr po qo pd h1 w g E1 E2
end Go.Proofs.Qxb6618999aDoor
