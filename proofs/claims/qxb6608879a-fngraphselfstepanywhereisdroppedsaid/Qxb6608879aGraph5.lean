/- The graph, more: two graphs side by side. -/
import Derived.Test.Qxb6608879aGraph4
namespace Go.Proofs.Qxb6608879a.base
open Go.ChangeShapes Go.WideShapes Go.ChangeAt Go.RowKit
set_option linter.unusedVariables false

theorem GS.kept {w w' : World} {H C N M : Nat} {Y : List Nat} {p : Int} {ve vst vl vs : Value} {ss : List Int} {mv : Bool} (h : GS w H C N p ve vst vl vs ss mv) (hk : Kept M Y w w') (hH : H < M) (hY : H ∉ Y)
    (hv : ∀ k, vs.ownBlock = some k → k < M ∧ k ∉ Y) : GS w' H C N p ve vst vl vs ss mv :=
  ⟨(hk.block H hH hY).trans h.heap, ownsRow_block h.own (fun k e => hk.block k (hv k e).1 (hv k e).2), h.at_⟩

theorem GS.below {w w' : World} {H C N : Nat} {p : Int} {ve vst vl vs : Value} {ss : List Int} {mv : Bool} (h : GS w H C N p ve vst vl vs ss mv) (hb : Below w.heap.size w w') : GS w' H C N p ve vst vl vs ss mv :=
  ⟨(hb.block H h.lt).trans h.heap, ownsRow_block h.own (fun k e => hb.block k (World.ownsRow.lt h.own k e).2), h.at_⟩

theorem GS.of {w w' : World} {H C N n : Nat} {p : Int} {ve vst vl vs : Value} {ss : List Int} {mv : Bool} (h : GS w H C N p ve vst vl vs ss mv) (e : w' = w.drewN n) : GS w' H C N p ve vst vl vs ss mv := by subst e; exact h.drewN n

theorem GS.lt_own {w : World} {H C N : Nat} {p : Int} {ve vst vl vs : Value} {ss : List Int} {mv : Bool} (h : GS w H C N p ve vst vl vs ss mv) (k : Nat) (e : vs.ownBlock = some k) : k < w.heap.size := (World.ownsRow.lt h.own k e).2

/-- What is read while the two scripts run and behind them. -/
structure Env8 (w : World) (N : Nat) (X : List Nat) (x7 ya1 ya3 ya4 yb1 yb3 yb4 : Value) (es : List Int) (bs : List Bool) (ls ts : List Int) : Prop where
  s7 : Sep (Value.int .i64) 3 0 N X w x7 ts
  a1 : Sep (Value.int .i64) 3 0 N X w ya1 es
  a3 : Sep Value.bool 4 0 N X w ya3 bs
  a4 : Sep (Value.int .u8) 5 0 N X w ya4 ls
  b1 : Sep (Value.int .i64) 3 0 N X w yb1 es
  b3 : Sep Value.bool 4 0 N X w yb3 bs
  b4 : Sep (Value.int .u8) 5 0 N X w yb4 ls

theorem Env8.kept {w w' : World} {N M : Nat} {X Y : List Nat} {x7 ya1 ya3 ya4 yb1 yb3 yb4 : Value} {es : List Int} {bs : List Bool} {ls ts : List Int} (h : Env8 w N X x7 ya1 ya3 ya4 yb1 yb3 yb4 es bs ls ts)
    (hk : Kept M Y w w') (hN : N ≤ M) (hY : ∀ k, k ∉ X → k ∉ Y) : Env8 w' N X x7 ya1 ya3 ya4 yb1 yb3 yb4 es bs ls ts :=
  ⟨h.s7.kept hk hN hY, h.a1.kept hk hN hY, h.a3.kept hk hN hY, h.a4.kept hk hN hY, h.b1.kept hk hN hY, h.b3.kept hk hN hY, h.b4.kept hk hN hY⟩

/-- .. the two graphs' successors, and what the law has left alone. -/
structure Tl8 (w0 w : World) (N : Nat) (X : List Nat) (x7 ya1 ya3 ya4 yb1 yb3 yb4 va vb : Value) (es : List Int) (bs : List Bool) (ls ts gl : List Int) : Prop where
  env : Env8 w N X x7 ya1 ya3 ya4 yb1 yb3 yb4 es bs ls ts
  owna : w.ownsRow 0 3 1 va gl.length (gl.map (Value.int .i64))
  ownb : w.ownsRow 0 3 1 vb gl.length (gl.map (Value.int .i64))
  bel : Below w0.heap.size w0 w

theorem Tl8.of {w0 w w' : World} {N n : Nat} {X : List Nat} {x7 ya1 ya3 ya4 yb1 yb3 yb4 va vb : Value} {es : List Int} {bs : List Bool} {ls ts gl : List Int} (h : Tl8 w0 w N X x7 ya1 ya3 ya4 yb1 yb3 yb4 va vb es bs ls ts gl) (e : w' = w.drewN n) :
    Tl8 w0 w' N X x7 ya1 ya3 ya4 yb1 yb3 yb4 va vb es bs ls ts gl := by
  subst e
  exact ⟨⟨h.env.s7, h.env.a1, h.env.a3, h.env.a4, h.env.b1, h.env.b3, h.env.b4⟩, h.owna, h.ownb, below_drewN h.bel n⟩

/-- Two graphs, the second made behind the first: all that the scripts read, apart from all that they write. -/
theorem env8 {w5 wA wB : World} {W5 Ha Ca Hb Cb : Nat} {p : Int} {x7 ya1 ya2 ya3 ya4 yb1 yb2 yb3 yb4 : Value} {es ss : List Int} {bs : List Bool} {ls ts : List Int} {mv : Bool} {lo hi : Nat}
    (s7 : Sep (Value.int .i64) 3 lo hi [] w5 x7 ts) (h5 : hi ≤ W5) (D : Below W5 w5 wB)
    (bA : Born W5 wA Ha Ca p ya1 ya2 ya3 ya4 es ss bs ls mv) (bB : Born wA.heap.size wB Hb Cb p yb1 yb2 yb3 yb4 es ss bs ls mv) (DB : Below wA.heap.size wA wB) :
    Env8 wB wB.heap.size [Ha, Ca, Hb, Cb] x7 ya1 ya3 ya4 yb1 yb3 yb4 es bs ls ts := by
  have h1 := bA.lo
  have h2 := bA.hi
  have h3 := bA.size
  have h4 := bB.lo
  have h6 := bB.hi
  have h7 := bB.size
  have h8 := bA.loH
  refine ⟨((s7.below (D.mono h5)).ext (by omega) (fun k _ _ _ => by simp; omega)).zero, ?_, ?_, ?_, ?_, ?_, ?_⟩
  · exact ((bA.se.below (DB.mono (by omega))).ext (by omega) (fun k _ _ h => by simp at h ⊢; omega)).zero
  · exact ((bA.sb.below (DB.mono (by omega))).ext (by omega) (fun k _ _ h => by simp at h ⊢; omega)).zero
  · exact ((bA.sl.below (DB.mono (by omega))).ext (by omega) (fun k _ _ h => by simp at h ⊢; omega)).zero
  · exact (bB.se.ext (by omega) (fun k _ _ h => by simp at h ⊢; omega)).zero
  · exact (bB.sb.ext (by omega) (fun k _ _ h => by simp at h ⊢; omega)).zero
  · exact (bB.sl.ext (by omega) (fun k _ _ h => by simp at h ⊢; omega)).zero
end Go.Proofs.Qxb6608879a.base
