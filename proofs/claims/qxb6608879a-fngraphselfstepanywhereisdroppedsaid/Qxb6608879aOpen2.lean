/- From a slice of bools that came in to 'Rd'. -/
import Derived.Test.Qxb6608879aOpen
namespace Go.Proofs.Qxb6608879a.base
open Go.ChangeShapes Go.WideShapes Go.ChangeAt Go.RowKit
set_option linter.unusedVariables false

/-- WHAT THE WALK IS TOLD OF A SLICE OF INTEGERS THAT CAME IN: it is nil; or it leads to a row of 'cap' cells, the numbers 'zs'. -/
def IsRow (k : IntKind) (w : World) (a : Option Addr) (len cap : Nat) (zs : List Int) : Prop :=
  (a = none ∧ len = 0 ∧ cap = 0 ∧ zs = []) ∨
  ∃ x, a = some x ∧ len ≤ cap ∧ cap ≤ maxLen ∧ zs.length = cap ∧ (∀ i, i < zs.length → w.cell? (x.add i) = some (.int k (zs.getD i 0))) ∧ ∀ n ∈ zs, (Lit.int k n).wf = true

/-- .. OF A SLICE OF BOOLS. -/
def IsBools (w : World) (a : Option Addr) (len cap : Nat) (B : Nat → Bool) : Prop :=
  (a = none ∧ len = 0 ∧ cap = 0) ∨
  ∃ x, a = some x ∧ len ≤ cap ∧ cap ≤ maxLen ∧ ∀ i, i < cap → w.cell? (x.add i) = some (.bool (B i))

theorem rd_of_bools {w : World} {a : Option Addr} {len cap : Nat} {B : Nat → Bool} (h : IsBools w a len cap B) :
    ∃ xs : List Bool, len = xs.length ∧ len ≤ maxLen ∧ Rd Value.bool false w.heap.size w (.slice a len cap) xs := by
  rcases h with ⟨rfl, rfl, rfl⟩ | ⟨x, rfl, h1, h2, h4⟩
  · exact ⟨[], rfl, Nat.zero_le _, ⟨none, 0, 0, 0, rfl, fun h => absurd h (by simp), fun i hi => absurd hi (by simp)⟩⟩
  · have hl : ((List.range len).map B).length = len := by simp
    refine ⟨(List.range len).map B, hl.symm, by omega, ?_⟩
    by_cases h0 : len = 0
    · subst h0
      exact ⟨some x, cap, 0, 0, by simp, fun h => absurd h (by simp), fun i hi => absurd hi (by simp)⟩
    · obtain ⟨b, off, spot⟩ := x
      have hspot : spot = none := by simpa [Addr.add] using World.cell?_spot (h4 0 (by omega))
      subst hspot
      refine ⟨_, cap, b, off, by rw [hl], fun _ => ⟨rfl, ?_⟩, fun i hi => ?_⟩
      · exact World.block_lt_of_cell? w _ (h4 0 (by omega))
      · rw [hl] at hi
        have := h4 i (by omega)
        rw [Go.WideShapes.add_plain] at this
        rw [this]
        simp [List.getD_eq_getElem?_getD, hi]
end Go.Proofs.Qxb6608879a.base
