import Derived.Test.Qxb6618999aDoorWB
import Derived.WalkKit
import Derived.WalkSpells
import Derived.WalkLawsBesides
import Derived.Laws.NewBlocks
import Derived.Laws.Bits64b
import Derived.Laws.Shifts
import Derived.BigQuiet
import Derived.Below
import Derived.Deep.RegionWith
import Derived.Deep.DeepCutAuto
import Derived.Test.Qxb6618999aDoorBoxb
import Derived.Test.Qxb6618999aDoorWS
import Derived.Test.Qxb6618999aDoorWP
import Derived.Test.Qxb6618999aDoorWQ
import Derived.Test.Qxb6618999aDoorWR
import Derived.Test.Qxb6618999aDoorWL
namespace Go.Proofs.Qxb6618999aDoor
open Go Go.RowKit
set_option linter.unusedVariables false
set_option linter.unusedSimpArgs false
theorem flowAny : FlowAny := flow_any
theorem main_any (a : Addr) (p0 p1 p2 p3 r0 r1 r2 r3 u0 u1 u2 u3 v0 v1 v2 v3 pr po qo m n : Int) (pd : Bool) (hp0 : 0 ≤ p0) (kp0 : p0 < 256) (hp1 : 0 ≤ p1) (kp1 : p1 < 256) (hp2 : 0 ≤ p2) (kp2 : p2 < 256) (hp3 : 0 ≤ p3) (kp3 : p3 < 256) (hr0 : 0 ≤ r0) (kr0 : r0 < 256) (hr1 : 0 ≤ r1) (kr1 : r1 < 256) (hr2 : 0 ≤ r2) (kr2 : r2 < 256) (hr3 : 0 ≤ r3) (kr3 : r3 < 256) (hu0 : 0 ≤ u0) (ku0 : u0 < 256) (hu1 : 0 ≤ u1) (ku1 : u1 < 256) (hu2 : 0 ≤ u2) (ku2 : u2 < 256) (hu3 : 0 ≤ u3) (ku3 : u3 < 256) (hv0 : 0 ≤ v0) (kv0 : v0 < 256) (hv1 : 0 ≤ v1) (kv1 : v1 < 256) (hv2 : 0 ≤ v2) (kv2 : v2 < 256) (hv3 : 0 ≤ v3) (kv3 : v3 < 256) (w : World) (g : GW a w) :
    Calls Tryd.prog 3 #[.agg #[.int .u8 p0, .int .u8 p1, .int .u8 p2, .int .u8 p3], .agg #[.int .u8 r0, .int .u8 r1, .int .u8 r2, .int .u8 r3], .int .u8 pr, .int .u16 po, .int .u16 qo, .bool pd, .agg #[.int .u8 u0, .int .u8 u1, .int .u8 u2, .int .u8 u3], .int .i64 m, .agg #[.int .u8 v0, .int .u8 v1, .int .u8 v2, .int .u8 v3], .int .i64 n] w fun e w' => e = .returned (.bool true) ∧ Below w.heap.size w w' := by
  rcases Int.lt_or_le m 0 with h | h0
  · exact main_out_a p0 p1 p2 p3 r0 r1 r2 r3 u0 u1 u2 u3 v0 v1 v2 v3 pr po qo m n pd h w
  rcases Int.lt_or_le 32 m with h | h1
  · exact main_out_b p0 p1 p2 p3 r0 r1 r2 r3 u0 u1 u2 u3 v0 v1 v2 v3 pr po qo m n pd h0 h w
  rcases Int.lt_or_le n 0 with h | h2
  · exact main_out_c p0 p1 p2 p3 r0 r1 r2 r3 u0 u1 u2 u3 v0 v1 v2 v3 pr po qo m n pd h0 h1 h w
  rcases Int.lt_or_le 32 n with h | h3
  · exact main_out_d p0 p1 p2 p3 r0 r1 r2 r3 u0 u1 u2 u3 v0 v1 v2 v3 pr po qo m n pd h0 h1 h2 h w
  cases i1 : inpB (be p0 p1 p2 p3) (be u0 u1 u2 u3) (32 - m).toNat <;> cases i2 : inpB (be r0 r1 r2 r3) (be v0 v1 v2 v3) (32 - n).toNat
  · exact main_false_false flowAny a p0 p1 p2 p3 r0 r1 r2 r3 u0 u1 u2 u3 v0 v1 v2 v3 pr po qo m n pd hp0 kp0 hp1 kp1 hp2 kp2 hp3 kp3 hr0 kr0 hr1 kr1 hr2 kr2 hr3 kr3 hu0 ku0 hu1 ku1 hu2 ku2 hu3 ku3 hv0 kv0 hv1 kv1 hv2 kv2 hv3 kv3 h0 h1 h2 h3 i1 i2 w g
  · exact main_false_true flowAny a p0 p1 p2 p3 r0 r1 r2 r3 u0 u1 u2 u3 v0 v1 v2 v3 pr po qo m n pd hp0 kp0 hp1 kp1 hp2 kp2 hp3 kp3 hr0 kr0 hr1 kr1 hr2 kr2 hr3 kr3 hu0 ku0 hu1 ku1 hu2 ku2 hu3 ku3 hv0 kv0 hv1 kv1 hv2 kv2 hv3 kv3 h0 h1 h2 h3 i1 i2 w g
  · exact main_true_false flowAny a p0 p1 p2 p3 r0 r1 r2 r3 u0 u1 u2 u3 v0 v1 v2 v3 pr po qo m n pd hp0 kp0 hp1 kp1 hp2 kp2 hp3 kp3 hr0 kr0 hr1 kr1 hr2 kr2 hr3 kr3 hu0 ku0 hu1 ku1 hu2 ku2 hu3 ku3 hv0 kv0 hv1 kv1 hv2 kv2 hv3 kv3 h0 h1 h2 h3 i1 i2 w g
  · exact main_true_true flowAny a p0 p1 p2 p3 r0 r1 r2 r3 u0 u1 u2 u3 v0 v1 v2 v3 pr po qo m n pd hp0 kp0 hp1 kp1 hp2 kp2 hp3 kp3 hr0 kr0 hr1 kr1 hr2 kr2 hr3 kr3 hu0 ku0 hu1 ku1 hu2 ku2 hu3 ku3 hv0 kv0 hv1 kv1 hv2 kv2 hv3 kv3 h0 h1 h2 h3 i1 i2 w g
end Go.Proofs.Qxb6618999aDoor
