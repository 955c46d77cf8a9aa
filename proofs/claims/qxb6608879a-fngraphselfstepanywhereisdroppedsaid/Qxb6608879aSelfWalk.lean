/- The walk of FnGraphSelfStepAnywhereIsDropped where the law returns true at once. -/
import Derived.Test.Qxb6608879aGraph3
namespace Go.Proofs.Qxb6608879a.base
open Go.ChangeShapes Go.WideShapes Go.ChangeAt Go.RowKit
set_option linter.unusedVariables false

/-- The lengths and the place that the law looks at. -/
def Small8 (l1 l2 l3 l4 l7 : Nat) (g : Int) : Prop := (l1 ≤ 32768 ∧ l2 ≤ 32768 ∧ l3 ≤ 65536 ∧ l4 ≤ 65536 ∧ l7 ≤ 32768) ∧ 0 ≤ g ∧ g ≤ (l7 : Int)

set_option maxRecDepth 100000 in
set_option maxHeartbeats 1600000 in
theorem big_law8 (p : Int) (a1 a2 a3 a4 a7 : Option Addr) (l1 l2 l3 l4 l7 c1 c2 c3 c4 c7 : Nat) (mv : Bool) (f g : Int) (w : World) (h1 : l1 ≤ maxLen) (h2 : l2 ≤ maxLen) (h3 : l3 ≤ maxLen) (h4 : l4 ≤ maxLen) (h7 : l7 ≤ maxLen)
    (hbig : ¬ Small8 l1 l2 l3 l4 l7 g) :
    Calls Try.prog 8 #[.int .i64 p, .slice a1 l1 c1, .slice a2 l2 c2, .slice a3 l3 c3, .slice a4 l4 c4, .bool mv, .int .i64 f, .slice a7 l7 c7, .int .i64 g] w fun e w' => e = .returned (.bool true) ∧ Below w.heap.size w w' := by
  have HB : Hid (¬ Small8 l1 l2 l3 l4 l7 g) := hbig
  clear hbig
  go_enter Try.func8, Try.ntmps8
  go_wp2_with fail
  refine (bytes_self p a1 a2 a3 a4 a7 l1 l2 l3 l4 l7 c1 c2 c3 c4 c7 mv f g _ h1 h2 h3 h4 h7).mono ?_
  rintro e w1 ⟨b, rfl, rfl, _⟩
  unfold maxLen at h1 h2 h3 h4 h7
  cases b
  · go_wp2_with fail
    go_ret
    exact ⟨rfl, Below.refl _ _⟩
  · by_cases k1 : l1 ≤ 32768
    · by_cases k2 : l2 ≤ 32768
      · by_cases k7 : l7 ≤ 32768
        · by_cases k3 : l3 ≤ 65536
          · by_cases k4 : l4 ≤ 65536
            · by_cases kg : 0 ≤ g
              · have kg2 : ¬ g ≤ (l7 : Int) := fun h => HB.out ⟨⟨k1, k2, k3, k4, k7⟩, kg, h⟩
                go_wp2_with fail
                go_ret
                exact ⟨rfl, Below.refl _ _⟩
              · go_wp2_with fail
                go_ret
                exact ⟨rfl, Below.refl _ _⟩
            · go_wp2_with fail
              go_ret
              exact ⟨rfl, Below.refl _ _⟩
          · go_wp2_with fail
            go_ret
            exact ⟨rfl, Below.refl _ _⟩
        · go_wp2_with fail
          go_ret
          exact ⟨rfl, Below.refl _ _⟩
      · go_wp2_with fail
        go_ret
        exact ⟨rfl, Below.refl _ _⟩
    · go_wp2_with fail
      go_ret
      exact ⟨rfl, Below.refl _ _⟩
end Go.Proofs.Qxb6608879a.base
