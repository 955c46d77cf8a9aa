/- hasBit by its contract. -/
import Derived.Test.Qxb6613657aRows
import Derived.WalkKit
import Derived.ProofKit
import Derived.OpenShut
import Derived.Deep.QuietTactic
import Derived.BigQuiet
import Derived.WalkSmall
import Derived.Handy
import Derived.Laws.BitsAllLaws
namespace Go.Proofs.Qxb6613657a.base
open Go.ChangeShapes Go.WideShapes Go.ChangeAt Go.RowKit
set_option linter.unusedVariables false

theorem pow_lt (r : Nat) (hr : r < 64) : 2 ^ r < 18446744073709551616 := by
  have := Nat.pow_lt_pow_right (a := 2) (by decide) hr
  exact this
theorem wrap_pow (r : Nat) (hr : r < 64) : IntKind.u64.wrap ((2 : Int) ^ r) = ((2 ^ r : Nat) : Int) := by
  have e : ((2 : Int) ^ r) = ((2 ^ r : Nat) : Int) := (Int.natCast_pow 2 r).symm
  have h := pow_lt r hr
  rw [e, IntKind.wrap_u64]
  generalize 2 ^ r = y at h
  omega

/-- What hasBit reckons is the bit. -/
theorem and_bit (x r : Nat) (hr : r < 64) (hx : x < 18446744073709551616) : (bits .and .u64 (x : Int) (IntKind.u64.wrap ((2 : Int) ^ r)) != 0) = x.testBit r := by
  rw [wrap_pow r hr, u64_and_nat _ _ hx (pow_lt r hr), nat_bit, Nat.testBit_eq_decide_div_mod_eq]
  rcases Nat.mod_two_eq_zero_or_one (x / 2 ^ r) with h | h
  · rw [h]; simp
  · rw [h]
    have : (2 ^ r : Nat) ≠ 0 := Nat.ne_of_gt (Nat.two_pow_pos r)
    simp only [Nat.one_mul, decide_true]
    rw [bne_iff_ne]
    omega

theorem ret_bool {a b : Bool} (h : a = b) : Ending.returned (.bool a) = .returned (.bool b) := by rw [h]

set_option maxRecDepth 100000 in
set_option maxHeartbeats 400000 in
theorem has_bit (g o n c q r x : Nat) (i : Int) (w : World) (h0 : 0 ≤ i) (h1 : i / 64 = (q : Int)) (h2 : i % 64 = (r : Int)) (hr : r < 64) (hq : q < n) (hn : n ≤ 65536) (hx : x < 18446744073709551616)
    (hc : w.cell? ⟨g, o + q, none⟩ = some (.int .u64 (x : Int))) :
    Calls Try.prog 30 #[.slice (some ⟨g, o, none⟩) n c, .int .i64 i] w fun e w' => e = .returned (.bool (x.testBit r)) ∧ ∃ m, w' = w.drewN m := by
  have hq2 : (q : Int) < (n : Int) := by omega
  go_enter Try.func30, Try.ntmps30
  go_wp2
  go_quiet (fail)
  go_wp2
  go_ret
  exact ⟨ret_bool (and_bit x r hr hx), _, rfl⟩

set_option maxRecDepth 100000 in
theorem zz_bit (g o n c q r x : Nat) (i : Int) (w : World) (h0 : 0 ≤ i) (h1 : i / 64 = (q : Int)) (h2 : i % 64 = (r : Int)) (hr : r < 64) (hq : q < n) (hn : n ≤ 65536) (hx : x < 18446744073709551616)
    (hc : w.cell? ⟨g, o + q, none⟩ = some (.int .u64 (x : Int))) :
    Calls Try.prog 20 #[.slice (some ⟨g, o, none⟩) n c, .int .i64 i] w fun e w' => e = .returned (.bool (x.testBit r)) ∧ ∃ m, w' = w.drewN m := by
  have H1 : Hid (i / 64 = (q : Int)) := h1
  have H2 : Hid (i % 64 = (r : Int)) := h2
  clear h1 h2
  go_enter Try.func20, Try.ntmps20
  go_wp2_with fail
  refine (has_bit g o n c q r x i _ h0 H1.out H2.out hr hq hn hx hc).mono ?_
  rintro e w' ⟨rfl, m, hm⟩
  go_wp2
  go_ret
  exact ⟨rfl, m, rfl⟩
end Go.Proofs.Qxb6613657a.base
