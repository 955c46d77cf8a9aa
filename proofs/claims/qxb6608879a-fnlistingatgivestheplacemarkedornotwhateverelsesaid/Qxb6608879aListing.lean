import Derived.Test.Qxb6608879aRows
import Derived.WalkKit
import Derived.ProofKit
import Derived.OpenShut
import Derived.Laws.BitsLemmas
namespace Go.Proofs.Qxb6608879a.listing
open Go.ChangeShapes Go.WideShapes Go.ChangeAt Go.RowKit
set_option linter.unusedVariables false

/-- The complement of an int32: '^a' is '-1 - a'. -/
theorem not_i32 (a : Int) (h1 : -2147483648 ≤ a) (h2 : a ≤ 2147483647) : bits .xor .i32 (-1) a = -1 - a := by
  have e : BitVec.ofInt 32 (-1) = BitVec.allOnes 32 := by decide
  have hb : IntKind.i32.bits = 32 := rfl
  simp only [bits]
  rw [hb, e, BitVec.allOnes_xor, BitVec.toNat_not, BitVec.toNat_ofInt, IntKind.wrap_i32]
  omega

theorem at_neg (a0 a1 a2 a3 : Int) (h1 : -2147483648 ≤ a1) (h2 : a1 ≤ 2147483647) (h : a1 < 0) (w : World) :
    Calls Try.prog 10 #[.int .u64 a0, .int .i32 a1, .int .i32 a2, .int .i32 a3] w fun e w' => e = .returned (.int .i32 (-1 - a1)) ∧ Grown w w' := by
  have e := not_i32 a1 h1 h2
  go_enter Try.func10, Try.ntmps10
  go_wp2
  go_ret
  exact ⟨rfl, by repeat (first | exact Grown.refl _ | apply Grown.drew | apply Grown.alloc)⟩

theorem at_pos (a0 a1 a2 a3 : Int) (h : ¬ a1 < 0) (w : World) :
    Calls Try.prog 10 #[.int .u64 a0, .int .i32 a1, .int .i32 a2, .int .i32 a3] w fun e w' => e = .returned (.int .i32 a1) ∧ Grown w w' := by
  go_enter Try.func10, Try.ntmps10
  go_wp2
  go_ret
  exact ⟨rfl, by repeat (first | exact Grown.refl _ | apply Grown.drew | apply Grown.alloc)⟩

/-- The place, unmarked. -/
def um (x : Int) : Int := if x < 0 then -1 - x else x
theorem um_pos (x : Int) : 0 ≤ um x := by unfold um; split <;> omega
theorem um_not (x : Int) : um (-1 - x) = um x := by unfold um; split <;> split <;> omega
theorem um_of_pos (x : Int) (h : 0 ≤ x) : um x = x := by unfold um; split <;> omega
theorem um_or (x : Int) : um x = x ∨ um x = -1 - x := by unfold um; split <;> omega

theorem Grown_trans {A B C : World} (h : Grown A B) (k : Grown B C) : Grown A C :=
  ⟨World.keptBut_trans h.1 k.1, fun x => (k.2.1 x).trans (h.2.1 x), Nat.le_trans h.2.2 k.2.2⟩

theorem at_any (a0 a1 a2 a3 : Int) (h1 : -2147483648 ≤ a1) (h2 : a1 ≤ 2147483647) (w : World) :
    Calls Try.prog 10 #[.int .u64 a0, .int .i32 a1, .int .i32 a2, .int .i32 a3] w fun e w' => e = .returned (.int .i32 (um a1)) ∧ Grown w w' := by
  by_cases h : a1 < 0
  · rw [show um a1 = -1 - a1 from by unfold um; simp [h]]
    exact at_neg a0 a1 a2 a3 h1 h2 h w
  · rw [show um a1 = a1 from by unfold um; simp [h]]
    exact at_pos a0 a1 a2 a3 h w
end Go.Proofs.Qxb6608879a.listing
