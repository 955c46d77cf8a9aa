/- encoding/binary.Uvarint at a number of two or three bytes. -/
import Derived.Test.Qxb6608879aBase
import Derived.Laws.BitsAllLaws
import Derived.LoopN
namespace Go.Proofs.Qxb6608879a.base
open Go.ChangeShapes Go.WideShapes Go.ChangeAt Go.RowKit
set_option linter.unusedVariables false

theorem and127 (b : Nat) (h : 128 ≤ b) (h2 : b < 256) : bits .and .u8 (b : Int) 127 = ((b - 128 : Nat) : Int) := by
  have e2 : (127 : Int) = ((127 : Nat) : Int) := rfl
  rw [e2, u8_and_nat _ _ (by omega) (by omega), nat_mask7]
  omega

theorem or_zero (a : Nat) (h : a < 128) : bits .or .u64 0 (a : Int) = (a : Int) := by
  have e2 : (0 : Int) = ((0 : Nat) : Int) := rfl
  rw [e2, u64_or_nat _ _ (by omega) (by omega), Nat.zero_or]

theorem or_seven (a b : Nat) (h : a < 128) (hb : b < 128) : bits .or .u64 (a : Int) ((b : Int) * 128) = ((a + b * 128 : Nat) : Int) := by
  have e2 : (b : Int) * 128 = ((b * 128 : Nat) : Int) := by omega
  rw [e2, u64_or_nat _ _ (by omega) (by omega), Nat.or_comm, nat_join 7 (b * 128) a (by omega) (by omega)]
  omega

theorem or_fourteen (a b : Nat) (h : a < 16384) (hb : b < 128) : bits .or .u64 (a : Int) ((b : Int) * 16384) = ((a + b * 16384 : Nat) : Int) := by
  have e2 : (b : Int) * 16384 = ((b * 16384 : Nat) : Int) := by omega
  rw [e2, u64_or_nat _ _ (by omega) (by omega), Nat.or_comm, nat_join 14 (b * 16384) a (by omega) (by omega)]
  omega

set_option maxRecDepth 100000 in
set_option maxHeartbeats 800000 in
theorem uv2 (g q M c : Nat) (b0 b1 : Nat) (w : World) (hM : 2 ≤ M) (hM2 : M ≤ 4194304) (h0 : 128 ≤ b0) (h0' : b0 < 256) (h1 : b1 < 128)
    (c0 : w.cell? ⟨g, q, none⟩ = some (.int .u8 (b0 : Int))) (c1 : w.cell? ⟨g, q + 1, none⟩ = some (.int .u8 (b1 : Int))) :
    Calls Try.prog 34 #[.slice (some ⟨g, q, none⟩) M c] w fun e w' => e = .returned (.tuple #[.int .u64 ((b0 - 128 + b1 * 128 : Nat) : Int), .int .i64 2]) ∧ w' = w := by
  have a0 := and127 b0 h0 h0'
  have m0 : (0 : Int) < (M : Int) := by omega
  have m1 : (1 : Int) < (M : Int) := by omega
  have o0 := or_zero (b0 - 128) (by omega)
  have o1 := or_seven (b0 - 128) b1 (by omega) (by omega)
  go_enter Try.func34, Try.ntmps34
  go_wp2
  refine wp_loop_rounds 2 ?_
  rw [rounds_succ]
  go_wp2
  rw [rounds_succ]
  go_wp2
  go_ret2
  exact ⟨rfl, rfl⟩

set_option maxRecDepth 100000 in
set_option maxHeartbeats 800000 in
theorem uv3 (g q M c : Nat) (b0 b1 b2 : Nat) (w : World) (hM : 3 ≤ M) (hM2 : M ≤ 4194304) (h0 : 128 ≤ b0) (h0' : b0 < 256) (h1 : 128 ≤ b1) (h1' : b1 < 256) (h2 : b2 < 128)
    (c0 : w.cell? ⟨g, q, none⟩ = some (.int .u8 (b0 : Int))) (c1 : w.cell? ⟨g, q + 1, none⟩ = some (.int .u8 (b1 : Int))) (c2 : w.cell? ⟨g, q + 2, none⟩ = some (.int .u8 (b2 : Int))) :
    Calls Try.prog 34 #[.slice (some ⟨g, q, none⟩) M c] w fun e w' => e = .returned (.tuple #[.int .u64 ((b0 - 128 + (b1 - 128) * 128 + b2 * 16384 : Nat) : Int), .int .i64 3]) ∧ w' = w := by
  have a0 := and127 b0 h0 h0'
  have a1 := and127 b1 h1 h1'
  have m0 : (0 : Int) < (M : Int) := by omega
  have m1 : (1 : Int) < (M : Int) := by omega
  have m2 : (2 : Int) < (M : Int) := by omega
  have o0 := or_zero (b0 - 128) (by omega)
  have o1 := or_seven (b0 - 128) (b1 - 128) (by omega) (by omega)
  have o2 := or_fourteen (b0 - 128 + (b1 - 128) * 128) b2 (by omega) (by omega)
  generalize b0 - 128 + (b1 - 128) * 128 = s at *
  generalize s + b2 * 16384 = r at *
  go_enter Try.func34, Try.ntmps34
  go_wp2
  refine wp_loop_rounds 3 ?_
  rw [rounds_succ]
  go_wp2
  rw [rounds_succ]
  go_wp2
  rw [rounds_succ]
  go_wp2
  go_ret2
  exact ⟨rfl, rfl⟩
end Go.Proofs.Qxb6608879a.base
