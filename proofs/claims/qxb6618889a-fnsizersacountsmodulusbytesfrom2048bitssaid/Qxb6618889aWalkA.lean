import Derived.Test.Qxb6618889aRows
import Derived.Test.Qxb6618889aPlain
import Derived.Lib.EndianBits
import Derived.WalkKit
import Derived.WalkSpells
import Derived.WalkLawsBesides
import Derived.BigQuiet
namespace Go.Proofs.Qxb6618889a
open Go.RowKit

set_option maxHeartbeats 4000000 in
set_option maxRecDepth 100000 in
theorem be64 (g o n c : Nat) (b0 b1 b2 b3 b4 b5 b6 b7 : UInt8) (w : World) (hn : 8 ≤ n)
    (d0 : w.cell? ⟨g, o, none⟩ = some (.int .u8 b0.toNat)) (d1 : w.cell? ⟨g, o + 1, none⟩ = some (.int .u8 b1.toNat)) (d2 : w.cell? ⟨g, o + 2, none⟩ = some (.int .u8 b2.toNat)) (d3 : w.cell? ⟨g, o + 3, none⟩ = some (.int .u8 b3.toNat)) (d4 : w.cell? ⟨g, o + 4, none⟩ = some (.int .u8 b4.toNat)) (d5 : w.cell? ⟨g, o + 5, none⟩ = some (.int .u8 b5.toNat)) (d6 : w.cell? ⟨g, o + 6, none⟩ = some (.int .u8 b6.toNat)) (d7 : w.cell? ⟨g, o + 7, none⟩ = some (.int .u8 b7.toNat)) :
    Calls Try.prog 26 #[.slice (some ⟨g, o, none⟩) n c] w fun e w' => e = .returned (.int .u64 (Plain.bv [b0, b1, b2, b3, b4, b5, b6, b7])) ∧ ∃ nq, w' = w.drewN nq := by
  have h0 : b0.toNat < 256 := b0.toNat_lt
  have h1 : b1.toNat < 256 := b1.toNat_lt
  have h2 : b2.toNat < 256 := b2.toNat_lt
  have h3 : b3.toNat < 256 := b3.toNat_lt
  have h4 : b4.toNat < 256 := b4.toNat_lt
  have h5 : b5.toNat < 256 := b5.toNat_lt
  have h6 : b6.toNat < 256 := b6.toNat_lt
  have h7 : b7.toNat < 256 := b7.toNat_lt
  have hv : ((Plain.bv [b0, b1, b2, b3, b4, b5, b6, b7] : Nat) : Int) = (b7.toNat : Int) + (b6.toNat : Int) * 256 + (b5.toNat : Int) * 65536 + (b4.toNat : Int) * 16777216 + (b3.toNat : Int) * 4294967296 + (b2.toNat : Int) * 1099511627776 + (b1.toNat : Int) * 281474976710656 + (b0.toNat : Int) * 72057594037927936 := by
    simp [Plain.bv]
    omega
  have q0 : 0 < n := by omega
  have q1 : (1 : Int) < (n : Int) := by omega
  have q2 : (2 : Int) < (n : Int) := by omega
  have q3 : (3 : Int) < (n : Int) := by omega
  have q4 : (4 : Int) < (n : Int) := by omega
  have q5 : (5 : Int) < (n : Int) := by omega
  have q6 : (6 : Int) < (n : Int) := by omega
  have q7 : (7 : Int) < (n : Int) := by omega
  rw [hv]
  clear hv
  go_enter Try.func26, Try.ntmps26
  go_wp2
  go_quiet (fail)
  go_wp2
  go_ret
  refine ⟨?_, _, rfl⟩
  simp (disch := omega) only [u64_or8, u64_or16, u64_or24, u64_or32, u64_or40, u64_or48, u64_or56]
  rfl

theorem beWord (g o n c : Nat) (b0 b1 b2 b3 b4 b5 b6 b7 : UInt8) (w : World) (hn : 8 ≤ n)
    (d0 : w.cell? ⟨g, o, none⟩ = some (.int .u8 b0.toNat)) (d1 : w.cell? ⟨g, o + 1, none⟩ = some (.int .u8 b1.toNat)) (d2 : w.cell? ⟨g, o + 2, none⟩ = some (.int .u8 b2.toNat)) (d3 : w.cell? ⟨g, o + 3, none⟩ = some (.int .u8 b3.toNat)) (d4 : w.cell? ⟨g, o + 4, none⟩ = some (.int .u8 b4.toNat)) (d5 : w.cell? ⟨g, o + 5, none⟩ = some (.int .u8 b5.toNat)) (d6 : w.cell? ⟨g, o + 6, none⟩ = some (.int .u8 b6.toNat)) (d7 : w.cell? ⟨g, o + 7, none⟩ = some (.int .u8 b7.toNat)) :
    Calls Try.prog 23 #[.slice (some ⟨g, o, none⟩) n c] w fun e w' => e = .returned (.int .u64 (Plain.bv [b0, b1, b2, b3, b4, b5, b6, b7])) ∧ ∃ nq, w' = w.drewN nq := by
  go_enter Try.func23, Try.ntmps23
  go_wp2_with (go_at_call 26; refine (be64 g o n c b0 b1 b2 b3 b4 b5 b6 b7 _ hn d0 d1 d2 d3 d4 d5 d6 d7).mono ?_; rintro e w' ⟨rfl, nq, rfl⟩)
  go_ret
  exact ⟨rfl, _, rfl⟩
end Go.Proofs.Qxb6618889a
