/- The graph, more: a graph over four clones; the two bounds' functions. -/
import Derived.Test.Qxb6608879aGraph2
namespace Go.Proofs.Qxb6608879a.base
open Go.ChangeShapes Go.WideShapes Go.ChangeAt Go.RowKit
set_option linter.unusedVariables false

/-- A new graph at block H over four clones of the call's own: the graph as it begins, its three other slices readable and apart from what its steps write. -/
structure Born (W5 : Nat) (W : World) (H C : Nat) (p : Int) (e1 s1 st1 l1 : Value) (es ss : List Int) (bs : List Bool) (ls : List Int) (mv : Bool) : Prop where
  gs : ∀ N, GS W H C N p e1 st1 l1 s1 ss mv
  lo : W5 ≤ C
  hi : C ≤ H
  loH : W5 ≤ H
  size : W.heap.size = H + 1
  se : Sep (Value.int .i64) 3 W5 H [H, C] W e1 es
  sb : Sep Value.bool 4 W5 H [H, C] W st1 bs
  sl : Sep (Value.int .u8) 5 W5 H [H, C] W l1 ls

theorem mk_graph {w5 w6 w7 w8 w9 : World} {es ss : List Int} {bs : List Bool} {ls : List Int} {e1 s1 st1 l1 : Value} (p : Int) (mv : Bool)
    (o6 : w6.ownsRow w5.heap.size 3 1 e1 es.length (es.map (Value.int .i64))) (b6 : Below w5.heap.size w5 w6)
    (o7 : w7.ownsRow w6.heap.size 3 1 s1 ss.length (ss.map (Value.int .i64))) (b7 : Below w6.heap.size w6 w7)
    (o8 : w8.ownsRow w7.heap.size 4 1 st1 bs.length (bs.map Value.bool)) (b8 : Below w7.heap.size w7 w8)
    (o9 : w9.ownsRow w8.heap.size 5 1 l1 ls.length (ls.map (Value.int .u8))) (b9 : Below w8.heap.size w8 w9) :
    ∃ C, Born w5.heap.size (w9.alloc (.cells #[.int .i64 p, e1, s1, st1, l1, .bool mv] 57)) w9.heap.size C p e1 s1 st1 l1 es ss bs ls mv := by
  have z6 := b6.size
  have z7 := b7.size
  have z8 := b8.size
  have z9 := b9.size
  have bW : Below w9.heap.size w9 (w9.alloc (.cells #[.int .i64 p, e1, s1, st1, l1, .bool mv] 57)) := (Below.refl _ _).alloc (Nat.le_refl _) _
  have c8 : Below w8.heap.size w8 (w9.alloc (.cells #[.int .i64 p, e1, s1, st1, l1, .bool mv] 57)) := b9.trans (bW.mono z9)
  have c7 : Below w7.heap.size w7 (w9.alloc (.cells #[.int .i64 p, e1, s1, st1, l1, .bool mv] 57)) := b8.trans (c8.mono z8)
  have c6 : Below w6.heap.size w6 (w9.alloc (.cells #[.int .i64 p, e1, s1, st1, l1, .bool mv] 57)) := b7.trans (c7.mono z7)
  have lt7 := World.ownsRow.lt o7
  have hH : (w9.alloc (.cells #[.int .i64 p, e1, s1, st1, l1, .bool mv] 57)).heap[w9.heap.size]? = some (.cells #[.int .i64 p, e1, s1, st1, l1, .bool mv] 57 (0, 0)) := by
    show (w9.heap.push _)[w9.heap.size]? = _
    simp
  obtain ⟨C, hC1, hC2, hC3⟩ : ∃ C, (∀ k, s1.ownBlock = some k → k = C) ∧ ((w6.heap.size ≤ C ∧ C < w7.heap.size) ∨ C = w9.heap.size) ∧ w5.heap.size ≤ C := by
    cases hs : s1.ownBlock with
    | none => exact ⟨w9.heap.size, fun k e => by simp at e, .inr rfl, by omega⟩
    | some k => exact ⟨k, fun j e => by simpa using e.symm, .inl (lt7 k hs), by have := (lt7 k hs).1; omega⟩
  refine ⟨C, ⟨fun N => ⟨hH, ownsRow_block (ownsRow_zero o7) (fun k e => c7.block k (lt7 k e).2), fun k e => .inl (hC1 k e)⟩, hC3, by omega, by omega, by simp, ?_, ?_, ?_⟩⟩
  · exact (sep_of o6 c6).ext (by omega) (fun k h1 h2 _ => by simp; omega)
  · have h := sep_of o8 c8
    exact ⟨h.1, fun k e => ⟨by have := (h.2 k e).1; omega, by have := (h.2 k e).2.1; omega, by have := h.2 k e; simp; omega⟩⟩
  · have h := sep_of o9 bW
    exact ⟨h.1, fun k e => ⟨by have := (h.2 k e).1; omega, by have := (h.2 k e).2.1; omega, by have := h.2 k e; simp; omega⟩⟩

set_option maxRecDepth 100000 in
theorem bytes_graph (p : Int) (a1 a2 a3 a4 a7 : Option Addr) (l1 l2 l3 l4 l7 c1 c2 c3 c4 c7 : Nat) (mv : Bool) (f : Int) (w : World) (h1 : l1 ≤ maxLen) (h2 : l2 ≤ maxLen) (h3 : l3 ≤ maxLen) (h4 : l4 ≤ maxLen) (h7 : l7 ≤ maxLen) :
    Calls Try.prog 12 #[.int .i64 p, .slice a1 l1 c1, .slice a2 l2 c2, .slice a3 l3 c3, .slice a4 l4 c4, .bool mv, .int .i64 f, .slice a7 l7 c7] w fun e w' =>
      ∃ b, e = .returned (.bool b) ∧ w' = w ∧ (l1 ≤ 32768 → l2 ≤ 32768 → l3 ≤ 65536 → l4 ≤ 65536 → l7 ≤ 32768 → b = true) := by
  unfold maxLen at h1 h2 h3 h4 h7
  go_enter Try.func12, Try.ntmps12
  go_wp2
  all_goals go_ret
  all_goals first | exact ⟨true, rfl, rfl, fun _ _ _ _ _ => rfl⟩ | exact ⟨false, rfl, rfl, fun _ _ _ _ _ => by omega⟩

set_option maxRecDepth 100000 in
theorem bytes_self (p : Int) (a1 a2 a3 a4 a7 : Option Addr) (l1 l2 l3 l4 l7 c1 c2 c3 c4 c7 : Nat) (mv : Bool) (f g : Int) (w : World) (h1 : l1 ≤ maxLen) (h2 : l2 ≤ maxLen) (h3 : l3 ≤ maxLen) (h4 : l4 ≤ maxLen) (h7 : l7 ≤ maxLen) :
    Calls Try.prog 22 #[.int .i64 p, .slice a1 l1 c1, .slice a2 l2 c2, .slice a3 l3 c3, .slice a4 l4 c4, .bool mv, .int .i64 f, .slice a7 l7 c7, .int .i64 g] w fun e w' =>
      ∃ b, e = .returned (.bool b) ∧ w' = w ∧ (l1 ≤ 32768 → l2 ≤ 32768 → l3 ≤ 65536 → l4 ≤ 65536 → l7 ≤ 32768 → b = true) := by
  unfold maxLen at h1 h2 h3 h4 h7
  go_enter Try.func22, Try.ntmps22
  go_wp2
  all_goals go_ret
  all_goals first | exact ⟨true, rfl, rfl, fun _ _ _ _ _ => rfl⟩ | exact ⟨false, rfl, rfl, fun _ _ _ _ _ => by omega⟩
end Go.Proofs.Qxb6608879a.base
