/- From what the shell tells of a slice that came in to what the walks ask. -/
import Derived.Test.Qxb6613657aCopy
namespace Go.Proofs.Qxb6613657a.base
open Go.ChangeShapes Go.WideShapes Go.ChangeAt Go.RowKit
set_option linter.unusedVariables false

theorem len_of_row {k : IntKind} {w : World} {a : Option Addr} {len cap : Nat} {zs : List Int}
    (h : (a = none ∧ len = 0 ∧ cap = 0 ∧ zs = []) ∨
      ∃ x, a = some x ∧ len ≤ cap ∧ cap ≤ maxLen ∧ zs.length = cap ∧ (∀ i, i < zs.length → w.cell? (x.add i) = some (.int k (zs.getD i 0))) ∧ ∀ n ∈ zs, (Lit.int k n).wf = true) : len ≤ maxLen := by
  rcases h with ⟨rfl, rfl, rfl, rfl⟩ | ⟨x, rfl, h1, h2, h3, h4, h5⟩
  · exact Nat.zero_le _
  · omega

theorem row_at {w : World} {a : Option Addr} {len cap : Nat} {zs : List Int} (q : Nat) (hq : q < len)
    (h : (a = none ∧ len = 0 ∧ cap = 0 ∧ zs = []) ∨
      ∃ x, a = some x ∧ len ≤ cap ∧ cap ≤ maxLen ∧ zs.length = cap ∧ (∀ i, i < zs.length → w.cell? (x.add i) = some (.int .u64 (zs.getD i 0))) ∧ ∀ n ∈ zs, (Lit.int .u64 n).wf = true) :
    ∃ (b off x : Nat) (xs : List Int), a = some ⟨b, off, none⟩ ∧ len = xs.length ∧ x < 18446744073709551616 ∧ xs.getD q 0 = (x : Int) ∧ (∀ i, i < xs.length → w.cell? ⟨b, off + i, none⟩ = some (.int .u64 (xs.getD i 0))) ∧ b < w.heap.size := by
  rcases h with ⟨rfl, rfl, rfl, rfl⟩ | ⟨x, rfl, h1, h2, h3, h4, h5⟩
  · omega
  · obtain ⟨b, off, rfl, hc⟩ := ints_at h4 (by omega)
    have hl : (zs.take len).length = len := by simp; omega
    have hmem : (zs.take len).getD q 0 ∈ zs := by
      rw [List.getD_eq_getElem?_getD, List.getElem?_eq_getElem (by omega)]
      exact List.mem_of_mem_take (List.getElem_mem _)
    have hb := bounds_u64 (h5 _ hmem)
    refine ⟨b, off, ((zs.take len).getD q 0).toNat, zs.take len, rfl, hl.symm, by omega, by omega, fun i hi => ?_, ?_⟩
    · rw [hl] at hi
      rw [hc i (by omega)]
      simp [List.getD_eq_getElem?_getD, hi]
    · exact World.block_lt_of_cell? w _ (hc 0 (by omega))
end Go.Proofs.Qxb6613657a.base
