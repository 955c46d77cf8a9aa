/- From what the shell tells of a slice that came in to 'Rd'. -/
import Derived.Test.Qxb6608879aBase
namespace Go.Proofs.Qxb6608879a.base
open Go.ChangeShapes Go.WideShapes Go.ChangeAt Go.RowKit
set_option linter.unusedVariables false

theorem rd_of_row {k : IntKind} {w : World} {a : Option Addr} {len cap : Nat} {zs : List Int}
    (h : (a = none ∧ len = 0 ∧ cap = 0 ∧ zs = []) ∨
      ∃ x, a = some x ∧ len ≤ cap ∧ cap ≤ maxLen ∧ zs.length = cap ∧ (∀ i, i < zs.length → w.cell? (x.add i) = some (.int k (zs.getD i 0))) ∧ ∀ n ∈ zs, (Lit.int k n).wf = true) :
    ∃ xs : List Int, len = xs.length ∧ len ≤ maxLen ∧ Rd (Value.int k) 0 w.heap.size w (.slice a len cap) xs ∧ ∀ n ∈ xs, (Lit.int k n).wf = true := by
  rcases h with ⟨rfl, rfl, rfl, rfl⟩ | ⟨x, rfl, h1, h2, h3, h4, h5⟩
  · exact ⟨[], rfl, Nat.zero_le _, ⟨none, 0, 0, 0, rfl, fun h => absurd h (by simp), fun i hi => absurd hi (by simp)⟩, by simp⟩
  · have hl : (zs.take len).length = len := by simp; omega
    refine ⟨zs.take len, hl.symm, by omega, ?_, fun n hn => h5 n (List.mem_of_mem_take hn)⟩
    by_cases h0 : len = 0
    · subst h0
      exact ⟨some x, cap, 0, 0, by simp, fun h => absurd h (by simp), fun i hi => absurd hi (by simp)⟩
    · obtain ⟨b, off, rfl, hc⟩ := ints_at h4 (by omega)
      refine ⟨_, cap, b, off, by rw [hl], fun _ => ⟨rfl, ?_⟩, fun i hi => ?_⟩
      · exact World.block_lt_of_cell? w _ (hc 0 (by omega))
      · rw [hl] at hi
        rw [hc i (by omega)]
        simp [List.getD_eq_getElem?_getD, hi]
end Go.Proofs.Qxb6608879a.base
