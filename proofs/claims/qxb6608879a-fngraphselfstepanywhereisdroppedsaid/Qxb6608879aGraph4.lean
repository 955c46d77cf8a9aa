/- The graph, more: what the tails of the two laws read. -/
import Derived.Test.Qxb6608879aGraph3
namespace Go.Proofs.Qxb6608879a.base
open Go.ChangeShapes Go.WideShapes Go.ChangeAt Go.RowKit
set_option linter.unusedVariables false

section
variable {α : Type} {c : α → Value} {E : TypeId} {lo N : Nat} {X : List Nat} {w w' : World} {v : Value} {xs : List α}

theorem Sep.zero (h : Sep c E lo N X w v xs) : Sep c E 0 N X w v xs := ⟨h.1, fun k e => ⟨Nat.zero_le _, (h.2 k e).2⟩⟩

theorem Sep.drewN (h : Sep c E lo N X w v xs) (n : Nat) : Sep c E lo N X (w.drewN n) v xs := h

theorem ownsRow_at {B : Nat} {ao : Option Addr} {n cap : Nat} (d : α) (h : w.ownsRow B E 1 (.slice ao n cap) xs.length (xs.map c)) (hn : 0 < xs.length) :
    ∃ b, ao = some ⟨b, 0, none⟩ ∧ ∀ i, i < xs.length → w.cell? ⟨b, i, none⟩ = some (c (xs.getD i d)) := by
  have hcs := @World.ownsRow.cells _ _ _ _ _ _ _ h
  rcases h.2 with ⟨_, h0⟩ | ⟨g, cap', cur, hv, _⟩
  · omega
  · simp only [Value.slice.injEq] at hv
    refine ⟨g, hv.1, fun i hi => ?_⟩
    have := hcs (g := g) (by rw [hv.1]; rfl) i (c (xs.getD i d)) (by simp [hi])
    have hadd : (⟨g, 0, none⟩ : Addr).add i = ⟨g, i, none⟩ := by unfold Addr.add; split <;> simp_all
    rw [hadd] at this
    exact this

theorem Sep.at {ao : Option Addr} {n cap : Nat} (h : Sep c E lo N X w (.slice ao n cap) xs) (d : α) (hn : 0 < xs.length) :
    ∃ b, ao = some ⟨b, 0, none⟩ ∧ ∀ i, i < xs.length → w.cell? ⟨b, i, none⟩ = some (c (xs.getD i d)) := ownsRow_at d h.1 hn
end

theorem GS.drewN {w : World} {H C N : Nat} {p : Int} {ve vst vl vs : Value} {ss : List Int} {mv : Bool} (h : GS w H C N p ve vst vl vs ss mv) (n : Nat) : GS (w.drewN n) H C N p ve vst vl vs ss mv := ⟨h.heap, h.own, h.at_⟩

/-- What is read while the script runs and behind it: the law's own five clones, and the graph's three other slices. -/
structure Env (w : World) (N : Nat) (X : List Nat) (x1 x2 x3 x4 x7 y1 y3 y4 : Value) (es ss : List Int) (bs : List Bool) (ls ts : List Int) : Prop where
  s1 : Sep (Value.int .i64) 3 0 N X w x1 es
  s2 : Sep (Value.int .i64) 3 0 N X w x2 ss
  s3 : Sep Value.bool 4 0 N X w x3 bs
  s4 : Sep (Value.int .u8) 5 0 N X w x4 ls
  s7 : Sep (Value.int .i64) 3 0 N X w x7 ts
  e1 : Sep (Value.int .i64) 3 0 N X w y1 es
  e3 : Sep Value.bool 4 0 N X w y3 bs
  e4 : Sep (Value.int .u8) 5 0 N X w y4 ls

theorem Env.kept {w w' : World} {N M : Nat} {X Y : List Nat} {x1 x2 x3 x4 x7 y1 y3 y4 : Value} {es ss : List Int} {bs : List Bool} {ls ts : List Int} (h : Env w N X x1 x2 x3 x4 x7 y1 y3 y4 es ss bs ls ts)
    (hk : Kept M Y w w') (hN : N ≤ M) (hY : ∀ k, k ∉ X → k ∉ Y) : Env w' N X x1 x2 x3 x4 x7 y1 y3 y4 es ss bs ls ts :=
  ⟨h.s1.kept hk hN hY, h.s2.kept hk hN hY, h.s3.kept hk hN hY, h.s4.kept hk hN hY, h.s7.kept hk hN hY, h.e1.kept hk hN hY, h.e3.kept hk hN hY, h.e4.kept hk hN hY⟩

theorem Env.drewN {w : World} {N : Nat} {X : List Nat} {x1 x2 x3 x4 x7 y1 y3 y4 : Value} {es ss : List Int} {bs : List Bool} {ls ts : List Int} (h : Env w N X x1 x2 x3 x4 x7 y1 y3 y4 es ss bs ls ts) (n : Nat) :
    Env (w.drewN n) N X x1 x2 x3 x4 x7 y1 y3 y4 es ss bs ls ts := ⟨h.s1, h.s2, h.s3, h.s4, h.s7, h.e1, h.e3, h.e4⟩

/-- .. and what the law has left alone; the graph's successors gl. -/
structure Tl (w0 w : World) (N : Nat) (X : List Nat) (x1 x2 x3 x4 x7 y1 y3 y4 vs : Value) (es ss : List Int) (bs : List Bool) (ls ts gl : List Int) : Prop where
  env : Env w N X x1 x2 x3 x4 x7 y1 y3 y4 es ss bs ls ts
  own : w.ownsRow 0 3 1 vs gl.length (gl.map (Value.int .i64))
  bel : Below w0.heap.size w0 w

theorem Tl.of {w0 w w' : World} {N n : Nat} {X : List Nat} {x1 x2 x3 x4 x7 y1 y3 y4 vs : Value} {es ss : List Int} {bs : List Bool} {ls ts gl : List Int} (h : Tl w0 w N X x1 x2 x3 x4 x7 y1 y3 y4 vs es ss bs ls ts gl) (e : w' = w.drewN n) :
    Tl w0 w' N X x1 x2 x3 x4 x7 y1 y3 y4 vs es ss bs ls ts gl := by
  subst e
  exact ⟨h.env.drewN n, h.own, below_drewN h.bel n⟩

/-- A clone of the law's own, made before the graph: apart from what the graph's steps write. -/
theorem Sep.early {α : Type} {c : α → Value} {E : TypeId} {lo hi W5 H C N : Nat} {w w' : World} {v : Value} {xs : List α} (h : Sep c E lo hi [] w v xs) (hb : Below W5 w w') (h5 : hi ≤ W5) (hC : W5 ≤ C) (hH : W5 ≤ H) (hN : W5 ≤ N) : Sep c E 0 N [H, C] w' v xs :=
  ((h.below (hb.mono h5)).ext (by omega) (fun k h1 h2 _ => by simp; omega)).zero

theorem getD_left (a b : List Int) (i : Nat) (h : i < a.length) : (a ++ b).getD i 0 = a.getD i 0 := by
  rw [List.getD_eq_getElem?_getD, List.getD_eq_getElem?_getD, List.getElem?_append_left h]
theorem getD_right (a b : List Int) (i : Nat) : (a ++ b).getD (a.length + i) 0 = b.getD i 0 := by
  rw [List.getD_eq_getElem?_getD, List.getD_eq_getElem?_getD, List.getElem?_append_right (by omega), Nat.add_sub_cancel_left]

/-- The target at place k. -/
theorem oth_take (f : Int) (ts : List Int) (k : Nat) (h : k < ts.length) : ts.take (k + 1) = ts.take k ++ [ts.getD k 0] := by
  rw [List.take_succ_eq_append_getElem h]; simp [h]

/-- The k-th of the other targets is the one at place i. -/
theorem oth_at (f : Int) (ts : List Int) (i : Nat) (h : i < ts.length) (hne : (ts.getD i 0 == f) = false) :
    (oth f (ts.take i)).length < (oth f ts).length ∧ (oth f ts).getD (oth f (ts.take i)).length 0 = ts.getD i 0 := by
  have e : ts = ts.take i ++ (ts.getD i 0 :: ts.drop (i + 1)) := by
    conv => lhs; rw [← List.take_append_drop i ts, List.drop_eq_getElem_cons h]
    simp [h]
  have e2 : oth f ts = oth f (ts.take i) ++ (ts.getD i 0 :: oth f (ts.drop (i + 1))) := by
    conv => lhs; rw [e]
    simp only [oth, List.filter_append, List.filter_cons, hne]
    rfl
  rw [e2]
  constructor
  · simp
  · simp [List.getD_eq_getElem?_getD]
end Go.Proofs.Qxb6608879a.base
