/- The graph, more: ZZgraphStep at whatever two states, ZZnewGraph, ZZgraphFields. -/
import Derived.Test.Qxb6608879aGraph
namespace Go.Proofs.Qxb6608879a.base
open Go.ChangeShapes Go.WideShapes Go.ChangeAt Go.RowKit
set_option linter.unusedVariables false

/-- The targets other than f. -/
def oth (f : Int) (l : List Int) : List Int := l.filter (fun t => !(t == f))
theorem oth_snoc_same (f : Int) (l : List Int) : oth f (l ++ [f]) = oth f l := by simp [oth]
theorem oth_snoc_other (f : Int) (l : List Int) (t : Int) (h : (t == f) = false) : oth f (l ++ [t]) = oth f l ++ [t] := by
  simp only [oth, List.filter_append, List.filter_cons, h]
  rfl
theorem oth_len (f : Int) (l : List Int) : (oth f l).length ≤ l.length := List.length_filter_le _ _
theorem oth_nil (f : Int) : oth f [] = [] := rfl

set_option maxRecDepth 100000 in
theorem zzstep_same (H : Nat) (f : Int) (w : World) :
    Calls Try.prog 17 #[.pointer (some ⟨H, 0, none⟩), .int .i64 f, .int .i64 f] w fun e w' => e = .returned (.tuple #[]) ∧ w' = w := by
  go_enter Try.func17, Try.ntmps17
  go_wp2_with fail
  refine (step_same H f _).mono ?_
  rintro e w' ⟨rfl, rfl⟩
  go_wp2
  go_end0
  exact ⟨rfl, rfl⟩

set_option maxRecDepth 100000 in
theorem zzstep_other {w : World} {H C N : Nat} {p : Int} {ve vst vl vs : Value} {ss : List Int} {mv : Bool} (h : GS w H C N p ve vst vl vs ss mv) (hN : N ≤ w.heap.size) (hl : ss.length ≤ 1048576) (f t : Int) (hft : (t == f) = false) :
    Calls Try.prog 17 #[.pointer (some ⟨H, 0, none⟩), .int .i64 f, .int .i64 t] w fun e w' => e = .returned (.tuple #[]) ∧ (∃ vs', GS w' H C N p ve vst vl vs' (ss ++ [t]) true) ∧ Kept N [H, C] w w' := by
  go_enter Try.func17, Try.ntmps17
  go_wp2_with fail
  refine (step_other h hN hl f t hft).mono ?_
  rintro e w' ⟨rfl, ⟨vs', hg⟩, hk⟩
  go_wp2
  go_end0
  exact ⟨rfl, ⟨vs', hg⟩, hk⟩

/-- The graph after a script l of steps from f, begun at ss0 and mv0. -/
def Ran (w : World) (H C N : Nat) (p : Int) (ve vst vl : Value) (ss0 : List Int) (mv0 : Bool) (f : Int) (l : List Int) : Prop :=
  ∃ vs, GS w H C N p ve vst vl vs (ss0 ++ oth f l) (mv0 || !(oth f l).isEmpty)

/-- One step more. -/
theorem ran_step {w : World} {H C N : Nat} {p : Int} {ve vst vl : Value} {ss0 : List Int} {mv0 : Bool} {f : Int} {l : List Int} (h : Ran w H C N p ve vst vl ss0 mv0 f l) (hN : N ≤ w.heap.size) (hl : ss0.length + l.length ≤ 1048576) (t : Int) :
    Calls Try.prog 17 #[.pointer (some ⟨H, 0, none⟩), .int .i64 f, .int .i64 t] w fun e w' => e = .returned (.tuple #[]) ∧ Ran w' H C N p ve vst vl ss0 mv0 f (l ++ [t]) ∧ Kept N [H, C] w w' := by
  obtain ⟨vs, hg⟩ := h
  by_cases e : (t == f) = true
  · have e' : t = f := by simpa using e
    subst e'
    refine (zzstep_same H t w).mono ?_
    rintro e w' ⟨rfl, rfl⟩
    exact ⟨rfl, ⟨vs, by rw [oth_snoc_same]; exact hg⟩, Kept.refl _ _ _⟩
  · have e' : (t == f) = false := by simpa using e
    have := oth_len f l
    refine (zzstep_other hg hN (by simp; omega) f t e').mono ?_
    rintro e w' ⟨rfl, ⟨vs', hg'⟩, hk⟩
    refine ⟨rfl, ⟨vs', ?_⟩, hk⟩
    have e3 : (mv0 || !(oth f l ++ [t]).isEmpty) = true := by cases oth f l <;> simp
    rw [oth_snoc_other f l t e', e3]
    simpa using hg'

theorem ran_same {w : World} {H C N : Nat} {p : Int} {ve vst vl : Value} {ss0 : List Int} {mv0 : Bool} {f : Int} {l : List Int} (h : Ran w H C N p ve vst vl ss0 mv0 f l) :
    Calls Try.prog 17 #[.pointer (some ⟨H, 0, none⟩), .int .i64 f, .int .i64 f] w fun e w' => e = .returned (.tuple #[]) ∧ w' = w := zzstep_same H f w

set_option maxRecDepth 100000 in
theorem new_graph (p : Int) (a1 a2 a3 a4 : Option Addr) (l1 l2 l3 l4 c1 c2 c3 c4 : Nat) (mv : Bool) (w : World) :
    Calls Try.prog 16 #[.int .i64 p, .slice a1 l1 c1, .slice a2 l2 c2, .slice a3 l3 c3, .slice a4 l4 c4, .bool mv] w fun e w' =>
      e = .returned (.pointer (some ⟨w.heap.size, 0, none⟩)) ∧ w' = w.alloc (.cells #[.int .i64 p, .slice a1 l1 c1, .slice a2 l2 c2, .slice a3 l3 c3, .slice a4 l4 c4, .bool mv] 57) := by
  go_enter Try.func16, Try.ntmps16
  go_wp2
  go_ret
  exact ⟨rfl, rfl⟩

set_option maxRecDepth 100000 in
set_option maxHeartbeats 800000 in
theorem fields {w : World} {H C N : Nat} {p : Int} {ve vst vl vs : Value} {ss : List Int} {mv : Bool} (h : GS w H C N p ve vst vl vs ss mv) :
    Calls Try.prog 18 #[.pointer (some ⟨H, 0, none⟩)] w fun e w' => e = .returned (.tuple #[.int .i64 p, ve, vs, vst, vl, .bool mv]) ∧ ∃ n, w' = w.drewN n := by
  have c0 := cell_of h.heap 0 (.int .i64 p) (by simp)
  have c1 := cell_of h.heap 1 ve (by simp)
  have c2 := cell_of h.heap 2 vs (by simp)
  have c3 := cell_of h.heap 3 vst (by simp)
  have c4 := cell_of h.heap 4 vl (by simp)
  have c5 := cell_of h.heap 5 (.bool mv) (by simp)
  clear h
  go_enter Try.func18, Try.ntmps18
  go_wp2
  go_quiet (fail)
  go_wp2
  exact bodyPost_ret (v := .tuple #[.int .i64 p, ve, vs, vst, vl, .bool mv]) (by simp [results, Try.results18, go_sem]) rfl ⟨rfl, _, rfl⟩
end Go.Proofs.Qxb6608879a.base
