/- The graph: ZZnewGraph, ZZgraphStep, ZZgraphFields by their contracts. -/
import Derived.Test.Qxb6608879aClone
import Derived.Maps.AppendAt
namespace Go.Proofs.Qxb6608879a.base
open Go.ChangeShapes Go.WideShapes Go.ChangeAt Go.RowKit
set_option linter.unusedVariables false

/-- Of the first N blocks all but those of X are as they were. -/
structure Kept (N : Nat) (X : List Nat) (w w' : World) : Prop where
  os : w'.os = w.os
  tape : w'.tape = w.tape
  output : w'.output = w.output
  size : w.heap.size ≤ w'.heap.size
  block : ∀ k, k < N → k ∉ X → w'.heap[k]? = w.heap[k]?

theorem Kept.refl (N : Nat) (X : List Nat) (w : World) : Kept N X w w := ⟨rfl, rfl, rfl, Nat.le_refl _, fun _ _ _ => rfl⟩
theorem Kept.trans {N : Nat} {X : List Nat} {a b c : World} (h : Kept N X a b) (k : Kept N X b c) : Kept N X a c :=
  ⟨k.os.trans h.os, k.tape.trans h.tape, k.output.trans h.output, Nat.le_trans h.size k.size, fun i h1 h2 => (k.block i h1 h2).trans (h.block i h1 h2)⟩
theorem Kept.drewN {N : Nat} {X : List Nat} {a b : World} (h : Kept N X a b) (n : Nat) : Kept N X a (b.drewN n) :=
  h.trans ⟨rfl, rfl, rfl, Nat.le_refl _, fun _ _ _ => rfl⟩
theorem Kept.below {N B : Nat} {X : List Nat} {a b : World} (h : Kept N X a b) (hB : B ≤ N) (hX : ∀ k ∈ X, B ≤ k) : Below B a b :=
  ⟨h.os, h.tape, h.output, h.size, fun k hk => h.block k (by omega) (fun hm => by have := hX k hm; omega)⟩

/-- The slice v reads as xs; its block lies from lo on, below N, and is none of X. -/
def Sep {α : Type} (c : α → Value) (E : TypeId) (lo N : Nat) (X : List Nat) (w : World) (v : Value) (xs : List α) : Prop :=
  w.ownsRow 0 E 1 v xs.length (xs.map c) ∧ ∀ k, v.ownBlock = some k → lo ≤ k ∧ k < N ∧ k ∉ X

theorem ownsRow_zero {w : World} {B : Nat} {E : TypeId} {v : Value} {n : Nat} {ys : List Value} (h : w.ownsRow B E 1 v n ys) : w.ownsRow 0 E 1 v n ys := by
  refine ⟨h.1, ?_⟩
  rcases h.2 with h | ⟨g, cap, cur, h1, h2, h3⟩
  · exact .inl h
  · exact .inr ⟨g, cap, cur, h1, Nat.zero_le _, h3⟩

theorem ownsRow_block {w w' : World} {B : Nat} {E : TypeId} {v : Value} {n : Nat} {ys : List Value} (h : w.ownsRow B E 1 v n ys) (hb : ∀ k, v.ownBlock = some k → w'.heap[k]? = w.heap[k]?) : w'.ownsRow B E 1 v n ys := by
  refine ⟨h.1, ?_⟩
  rcases h.2 with h | ⟨g, cap, cur, rfl, h2, h3, h4⟩
  · exact .inl h
  · exact .inr ⟨g, cap, cur, rfl, h2, (hb g rfl).trans h3, h4⟩

section
variable {α : Type} {c : α → Value} {E : TypeId} {lo N : Nat} {X : List Nat} {w w' : World} {v : Value} {xs : List α}

/-- What is kept stays. -/
theorem Sep.kept {M : Nat} {Y : List Nat} (h : Sep c E lo N X w v xs) (hk : Kept M Y w w') (hN : N ≤ M) (hY : ∀ k, k ∉ X → k ∉ Y) : Sep c E lo N X w' v xs :=
  ⟨ownsRow_block h.1 (fun k e => hk.block k (by have := (h.2 k e).2.1; omega) (hY k (h.2 k e).2.2)), h.2⟩

theorem Sep.below (h : Sep c E lo N X w v xs) (hk : Below N w w') : Sep c E lo N X w' v xs :=
  ⟨ownsRow_block h.1 (fun k e => hk.block k (h.2 k e).2.1), h.2⟩

/-- Told otherwise. -/
theorem Sep.ext {N' : Nat} {X' : List Nat} (h : Sep c E lo N X w v xs) (hN : N ≤ N') (hX : ∀ k, lo ≤ k → k < N → k ∉ X → k ∉ X') : Sep c E lo N' X' w v xs :=
  ⟨h.1, fun k e => ⟨(h.2 k e).1, by have := (h.2 k e).2.1; omega, hX k (h.2 k e).1 (h.2 k e).2.1 (h.2 k e).2.2⟩⟩

/-- A slice that a clone has made. -/
theorem sep_of {w0 w1 : World} (o : w1.ownsRow w0.heap.size E 1 v xs.length (xs.map c)) (b : Below w1.heap.size w1 w') : Sep c E w0.heap.size w1.heap.size [] w' v xs := by
  have hlt := World.ownsRow.lt o
  exact ⟨ownsRow_block (ownsRow_zero o) (fun k e => b.block k (hlt k e).2), fun k e => ⟨(hlt k e).1, (hlt k e).2, by simp⟩⟩

theorem Sep.shape (h : Sep c E lo N X w v xs) : ∃ ao cap, v = .slice ao xs.length cap := by
  rcases h.1.2 with ⟨rfl, h0⟩ | ⟨g, cap, cur, rfl, _⟩
  · exact ⟨none, 0, by rw [h0]⟩
  · exact ⟨_, cap, rfl⟩

theorem ownsRow_rd {B : Nat} (d : α) (h : w.ownsRow B E 1 v xs.length (xs.map c)) : Rd c d w.heap.size w v xs := by
  have hlt := World.ownsRow.lt h
  have hcs := @World.ownsRow.cells _ _ _ _ _ _ _ h
  rcases h.2 with ⟨rfl, h0⟩ | ⟨g, cap, cur, rfl, _⟩
  · exact ⟨none, 0, 0, 0, by rw [h0], fun h => absurd h (by omega), fun i hi => absurd hi (by omega)⟩
  · refine ⟨some ⟨g, 0, none⟩, cap, g, 0, rfl, fun _ => ⟨rfl, (hlt g rfl).2⟩, fun i hi => ?_⟩
    have := hcs (g := g) rfl i (c (xs.getD i d)) (by simp [hi])
    have hadd : (⟨g, 0, none⟩ : Addr).add i = ⟨g, i, none⟩ := by unfold Addr.add; split <;> simp_all
    rw [hadd] at this
    rw [Nat.zero_add]
    exact this

theorem Sep.rd (h : Sep c E lo N X w v xs) (d : α) : Rd c d w.heap.size w v xs := ownsRow_rd d h.1
end

/-- A graph at block H: its fields, its successors ss. The block of its successors is C, or one that was made behind block N. -/
structure GS (w : World) (H C N : Nat) (p : Int) (ve vst vl : Value) (vs : Value) (ss : List Int) (mv : Bool) : Prop where
  heap : w.heap[H]? = some (.cells #[.int .i64 p, ve, vs, vst, vl, .bool mv] 57 (0, 0))
  own : w.ownsRow 0 3 1 vs ss.length (ss.map (Value.int .i64))
  at_ : ∀ k, vs.ownBlock = some k → k = C ∨ N ≤ k

theorem GS.ne {w : World} {H C N : Nat} {p : Int} {ve vst vl vs : Value} {ss : List Int} {mv : Bool} (h : GS w H C N p ve vst vl vs ss mv) : some H ≠ vs.ownBlock := by
  intro e
  rcases h.own.2 with ⟨rfl, _⟩ | ⟨g, cap, cur, rfl, _, hg, _⟩
  · simp [Value.ownBlock] at e
  · simp only [Value.ownBlock, Option.some.injEq] at e
    have hh := h.heap
    rw [e] at hh
    rw [hg] at hh
    simp at hh

theorem GS.lt {w : World} {H C N : Nat} {p : Int} {ve vst vl vs : Value} {ss : List Int} {mv : Bool} (h : GS w H C N p ve vst vl vs ss mv) : H < w.heap.size :=
  (Array.getElem?_eq_some_iff.1 h.heap).1

theorem cell_of {w : World} {H : Nat} {cs : Array Value} {E : TypeId} (h : w.heap[H]? = some (.cells cs E (0, 0))) (i : Nat) (v : Value) (hv : cs[i]? = some v) : w.cell? ⟨H, i, none⟩ = some v := by
  simp [World.cell?, h, hv]
theorem frozen_of {w : World} {H : Nat} {cs : Array Value} {E : TypeId} (h : w.heap[H]? = some (.cells cs E (0, 0))) (i : Nat) : w.frozen? ⟨H, i, none⟩ = false := by
  simp [World.frozen?, h]
theorem set_of {w : World} {H : Nat} {cs : Array Value} {E : TypeId} (h : w.heap[H]? = some (.cells cs E (0, 0))) (i : Nat) (v : Value) : (w.setCell ⟨H, i, none⟩ v).heap[H]? = some (.cells (cs.setIfInBounds i v) E (0, 0)) := by
  simp [World.setCell, Array.getElem?_modify, h]

theorem ownsRow_shape {w : World} {B : Nat} {E : TypeId} {v : Value} {n : Nat} {ys : List Value} (h : w.ownsRow B E 1 v n ys) : ∃ ao cap, v = .slice ao n cap := by
  rcases h.2 with ⟨rfl, h0⟩ | ⟨g, cap, cur, rfl, _⟩
  · exact ⟨none, 0, by rw [h0]⟩
  · exact ⟨_, cap, rfl⟩

theorem sinfo3 : (Try.prog.info? 3).map (fun i => (i.zero, i.size, i.bytes)) = some (some (.int .i64 0), 1, 8) := by kernel_rfl

/-- What one step that is taken does to the graph. -/
theorem gs_step {w w1 : World} {H C N : Nat} {p : Int} {ve vst vl vs vs' : Value} {ss : List Int} {mv : Bool} {o : Obj} {t : Int} (h : GS w H C N p ve vst vl vs ss mv) (hN : N ≤ w.heap.size)
    (hown : w1.ownsRow 0 3 1 vs' (ss.length + 1) (ss.map (Value.int .i64) ++ [.int .i64 t])) (hat : vs'.ownBlock = vs.ownBlock ∨ vs'.ownBlock = some (w.heap.size + 1)) (hg : (w.alloc o).grownBy w1 vs.ownBlock) :
    GS ((w1.setCell ⟨H, 2, none⟩ vs').setCell ⟨H, 5, none⟩ (.bool true)) H C N p ve vst vl vs' (ss ++ [t]) true ∧
    Kept N [H, C] w ((w1.setCell ⟨H, 2, none⟩ vs').setCell ⟨H, 5, none⟩ (.bool true)) := by
  have hlt := h.lt
  have hne := h.ne
  have hold : ∀ k, k < w.heap.size → some k ≠ vs.ownBlock → w1.heap[k]? = w.heap[k]? := fun k hk h2 => by
    rw [hg.block k (by simp; omega) h2, Below.heap_alloc w o k hk]
  have hH : w1.heap[H]? = some (.cells #[.int .i64 p, ve, vs, vst, vl, .bool mv] 57 (0, 0)) := (hold H hlt hne).trans h.heap
  have hne' : ∀ k, vs'.ownBlock = some k → k ≠ H := by
    intro k hk e
    subst e
    rcases hat with e | e
    · exact hne (by rw [← e, hk])
    · rw [e] at hk; simp at hk; omega
  refine ⟨⟨?_, ?_, ?_⟩, ⟨hg.os, hg.tape, hg.output, ?_, ?_⟩⟩
  · have := set_of (set_of hH 2 vs') 5 (.bool true)
    simpa using this
  · refine ownsRow_block (w := w1) (by simpa using hown) (fun k hk => ?_)
    rw [Below.heap_setCell _ _ _ _ (by exact hne' k hk), Below.heap_setCell _ _ _ _ (by exact hne' k hk)]
  · intro k hk
    rcases hat with e | e
    · exact h.at_ k (by rw [← e, hk])
    · rw [e] at hk; simp at hk; exact .inr (by omega)
  · have := hg.size
    simp [World.setCell] at this ⊢
    omega
  · intro k hk hx
    simp at hx
    rw [Below.heap_setCell _ _ _ _ (by exact hx.1), Below.heap_setCell _ _ _ _ (by exact hx.1)]
    refine hold k (by omega) (fun e => ?_)
    rcases h.at_ k e.symm with e | e
    · exact hx.2 e
    · omega

set_option maxRecDepth 100000 in
set_option maxHeartbeats 400000 in
/-- A step to the state itself: nothing. -/
theorem step_same (H : Nat) (f : Int) (w : World) :
    Calls Try.prog 31 #[.pointer (some ⟨H, 0, none⟩), .int .i64 f, .int .i64 f] w fun e w' => e = .returned (.tuple #[]) ∧ w' = w := by
  go_enter Try.func31, Try.ntmps31
  go_wp2
  go_end0
  exact ⟨rfl, rfl⟩

set_option maxRecDepth 100000 in
set_option maxHeartbeats 800000 in
/-- A step to another state: it is appended, and the graph moves. -/
theorem step_other {w : World} {H C N : Nat} {p : Int} {ve vst vl vs : Value} {ss : List Int} {mv : Bool} (h : GS w H C N p ve vst vl vs ss mv) (hN : N ≤ w.heap.size) (hl : ss.length ≤ 1048576) (f t : Int) (hft : (t == f) = false) :
    Calls Try.prog 31 #[.pointer (some ⟨H, 0, none⟩), .int .i64 f, .int .i64 t] w fun e w' => e = .returned (.tuple #[]) ∧ (∃ vs', GS w' H C N p ve vst vl vs' (ss ++ [t]) true) ∧ Kept N [H, C] w w' := by
  obtain ⟨i0, hi, hz0, hz1, hz2⟩ := info_parts sinfo3
  have hown := h.own
  have c2 := cell_of h.heap 2 vs (by simp)
  have hHlt := h.lt
  have GSH : Hid (GS w H C N p ve vst vl vs ss mv) := h
  clear h
  go_enter Try.func31, Try.ntmps31
  go_wp2_with (at_builtin; refine wpList_append_own_at _ rfl _ _ 29 rfl 0 3 i0 (.int .i64 0) 1 8 Try.underlying29 hi hz0 hz1 hz2 rfl (by decide) _ _ _ rfl (World.ownsRow.alloc hown _) ⟨w.heap.size, 0, none⟩ 1 1 [.int .i64 t] rfl rfl ?c1 ?c2 ?c3 ?c4 ?c5 ?_)
  case c1 =>
    intro j u hj
    match j, hj with
    | 0, hj => simp at hj; subst hj; simp [Addr.add]
  case c2 => intro u hu; simp at hu; subst hu; rfl
  case c3 => unfold maxLen; omega
  case c4 => omega
  case c5 => simp
  · intro v' w1 hown' hgrow _ hat
    have R := gs_step GSH.out hN hown' (by simpa using hat) hgrow
    have hH : w1.heap[H]? = some (.cells #[.int .i64 p, ve, vs, vst, vl, .bool mv] 57 (0, 0)) := by
      rw [hgrow.block H (by simp; omega) GSH.out.ne, Below.heap_alloc w _ H hHlt]; exact GSH.out.heap
    have d2 := cell_of hH 2 vs (by simp)
    have d5 := cell_of hH 5 (.bool mv) (by simp)
    have f2 := frozen_of hH 2
    have f5 := frozen_of hH 5
    obtain ⟨ao, cp, rfl⟩ := ownsRow_shape hown'
    clear hH hown' hgrow hown c2 hat
    go_wp2
    go_end0
    exact ⟨rfl, ⟨_, R.1⟩, R.2⟩
end Go.Proofs.Qxb6608879a.base
