/- zzCloneInts, zzCloneBools, zzCloneBytes by their contracts: a row of the call's own that reads as what was handed in. -/
import Derived.Test.Qxb6608879aBase
import Derived.Deep.OwnRows
import Derived.Lib.SliceRun
namespace Go.Proofs.Qxb6608879a.base
open Go.ChangeShapes Go.WideShapes Go.ChangeAt Go.RowKit
set_option linter.unusedVariables false

theorem cinfo3 : (Try.prog.info? 3).map (fun i => (i.zero, i.size, i.bytes)) = some (some (.int .i64 0), 1, 8) := by kernel_rfl
theorem cinfo4 : (Try.prog.info? 4).map (fun i => (i.zero, i.size, i.bytes)) = some (some (.bool false), 1, 1) := by kernel_rfl
theorem cinfo5 : (Try.prog.info? 5).map (fun i => (i.zero, i.size, i.bytes)) = some (some (.int .u8 0), 1, 1) := by kernel_rfl

section
variable {α : Type} {c : α → Value} {d : α} {E : TypeId}

/-- After k rounds: the first k elements are copied. -/
structure Cl (c : α → Value) (d : α) (E : TypeId) (w : World) (xs : List α) (k : Nat) (wr : World) : Prop where
  row : wr.rowIs w.heap.size E xs.length (fun j => if j < k then c (xs.getD j d) else c d)
  bel : Below w.heap.size w wr

theorem cl_start (w : World) (xs : List α) (hz : (c d).cells = #[c d]) : Cl c d E w xs 0 (w.alloc (.cells (madeCells #[c d] xs.length) E)) :=
  ⟨(World.rowIs_made w (c d) xs.length E).congr (fun i _ => by simp), (Below.refl _ _).alloc (Nat.le_refl _) _⟩

theorem cl_step {w wr : World} {xs : List α} {k : Nat} (h : Cl c d E w xs k wr) : Cl c d E w xs (k + 1) (wr.setCell ⟨w.heap.size, k, none⟩ (c (xs.getD k d))) := by
  refine ⟨(h.row.set k _).congr (fun i _ => ?_), h.bel.setCell (Nat.le_refl _) _⟩
  by_cases e : i = k
  · subst e; simp
  · rw [if_neg e]
    by_cases e2 : i < k
    · rw [if_pos e2, if_pos (by omega)]
    · rw [if_neg e2, if_neg (by omega)]

theorem cl_end {w wr : World} {xs : List α} (h : Cl c d E w xs xs.length wr) (hl : xs.length ≤ maxLen) :
    wr.ownsRow w.heap.size E 1 (.slice (some ⟨w.heap.size, 0, none⟩) xs.length xs.length) xs.length (xs.map c) := by
  obtain ⟨cur, h1, h2, h3⟩ := h.row
  refine ⟨by simp, .inr ⟨w.heap.size, xs.length, cur, rfl, Nat.le_refl _, h1, Nat.le_refl _, hl, by omega, ?_⟩⟩
  apply List.ext_getElem?
  intro i
  rw [List.getElem?_take, Nat.mul_one]
  by_cases hi : i < xs.length
  · rw [if_pos hi, List.getElem?_map, Array.getElem?_toList, h3 i hi]
    simp [hi]
  · rw [if_neg hi, List.getElem?_map, List.getElem?_eq_none (by omega)]
    rfl
end

set_option maxRecDepth 100000 in
set_option maxHeartbeats 400000 in
theorem clone_ints {B : Nat} {w : World} {v : Value} {xs : List Int} (h : Rd (Value.int .i64) 0 B w v xs) (hB : B ≤ w.heap.size) (hl : xs.length ≤ 1048576) :
    Calls Try.prog 13 #[v] w fun e w' => ∃ v', e = .returned v' ∧ w'.ownsRow w.heap.size 3 1 v' xs.length (xs.map (Value.int .i64)) ∧ Below w.heap.size w w' := by
  obtain ⟨a1, c1, b1, o1, rfl, g1, f1⟩ := h
  have hnil := fun w : World => Lib.run_eql_slice_nil (P := Try.prog) w 29 3 a1 xs.length c1 0 0 Try.underlying29
  cases a1 with
  | none =>
    have h0 : xs = [] := by
      cases xs with
      | nil => rfl
      | cons x xs => exact absurd (g1 (by simp)).1 (by simp)
    subst h0
    clear g1 f1
    simp only [List.length_nil, Option.isNone_none] at hnil ⊢
    go_enter Try.func13, Try.ntmps13
    go_wp2
    go_ret
    exact ⟨_, rfl, World.ownsRow_nil _ _ _ _, Below.refl _ _⟩
  | some ad =>
    have hmk := run_make_row' (P := Try.prog) 29 3 (.int .i64 0) 8 Try.underlying29 cinfo3 rfl .i64 .i64 xs.length (by omega) (by omega)
    have C0 := cl_start (c := Value.int .i64) (d := 0) (E := 3) w xs rfl
    go_enter Try.func13, Try.ntmps13
    go_wp2
    go_loopw [4] (fun i wr => ∃ k : Nat, k ≤ xs.length ∧ i = .int .i64 k ∧ Cl (Value.int .i64) 0 3 w xs k wr) (fun i _ => xs.length - (intOf i).toNat)
    case atStart => exact ⟨0, Nat.zero_le _, rfl, C0⟩
    case round =>
      obtain ⟨k, hk, rfl, hcl⟩ := hrel
      by_cases hlt : k < xs.length
      · obtain ⟨ha, hb1⟩ := g1 (by omega)
        simp only [Option.some.injEq] at ha
        subst ha
        have e1 : wr.cell? ⟨b1, o1 + k, none⟩ = some (.int .i64 (xs.getD k 0)) := (hcl.bel.cell (by show b1 < _; omega)).trans (f1 k hlt)
        have e2 := hcl.row.cell (i := k) hlt
        have e3 := hcl.row.frozen k
        have R := cl_step hcl
        clear hcl f1 g1 C0
        generalize xs.getD k 0 = z at *
        go_wp2
        go_roundw
        case rel => exact ⟨k + 1, by omega, by go_num, R⟩
        case measure => simp [intOf]; omega
      · have hke : k = xs.length := by omega
        subst hke
        go_wp2
        go_ret
        exact ⟨_, rfl, cl_end hcl (by unfold maxLen; omega), hcl.bel⟩

set_option maxRecDepth 100000 in
set_option maxHeartbeats 400000 in
theorem clone_bools {B : Nat} {w : World} {v : Value} {xs : List Bool} (h : Rd (Value.bool) false B w v xs) (hB : B ≤ w.heap.size) (hl : xs.length ≤ 1048576) :
    Calls Try.prog 14 #[v] w fun e w' => ∃ v', e = .returned v' ∧ w'.ownsRow w.heap.size 4 1 v' xs.length (xs.map (Value.bool)) ∧ Below w.heap.size w w' := by
  obtain ⟨a1, c1, b1, o1, rfl, g1, f1⟩ := h
  have hnil := fun w : World => Lib.run_eql_slice_nil (P := Try.prog) w 30 4 a1 xs.length c1 0 0 Try.underlying30
  cases a1 with
  | none =>
    have h0 : xs = [] := by
      cases xs with
      | nil => rfl
      | cons x xs => exact absurd (g1 (by simp)).1 (by simp)
    subst h0
    clear g1 f1
    simp only [List.length_nil, Option.isNone_none] at hnil ⊢
    go_enter Try.func14, Try.ntmps14
    go_wp2
    go_ret
    exact ⟨_, rfl, World.ownsRow_nil _ _ _ _, Below.refl _ _⟩
  | some ad =>
    have hmk := run_make_row' (P := Try.prog) 30 4 (.bool false) 1 Try.underlying30 cinfo4 rfl .i64 .i64 xs.length (by omega) (by omega)
    have C0 := cl_start (c := Value.bool) (d := false) (E := 4) w xs rfl
    go_enter Try.func14, Try.ntmps14
    go_wp2
    go_loopw [4] (fun i wr => ∃ k : Nat, k ≤ xs.length ∧ i = .int .i64 k ∧ Cl (Value.bool) false 4 w xs k wr) (fun i _ => xs.length - (intOf i).toNat)
    case atStart => exact ⟨0, Nat.zero_le _, rfl, C0⟩
    case round =>
      obtain ⟨k, hk, rfl, hcl⟩ := hrel
      by_cases hlt : k < xs.length
      · obtain ⟨ha, hb1⟩ := g1 (by omega)
        simp only [Option.some.injEq] at ha
        subst ha
        have e1 : wr.cell? ⟨b1, o1 + k, none⟩ = some (.bool (xs.getD k false)) := (hcl.bel.cell (by show b1 < _; omega)).trans (f1 k hlt)
        have e2 := hcl.row.cell (i := k) hlt
        have e3 := hcl.row.frozen k
        have R := cl_step hcl
        clear hcl f1 g1 C0
        generalize xs.getD k false = z at *
        go_wp2
        go_roundw
        case rel => exact ⟨k + 1, by omega, by go_num, R⟩
        case measure => simp [intOf]; omega
      · have hke : k = xs.length := by omega
        subst hke
        go_wp2
        go_ret
        exact ⟨_, rfl, cl_end hcl (by unfold maxLen; omega), hcl.bel⟩

set_option maxRecDepth 100000 in
set_option maxHeartbeats 400000 in
theorem clone_bytes {B : Nat} {w : World} {v : Value} {xs : List Int} (h : Rd (Value.int .u8) 0 B w v xs) (hB : B ≤ w.heap.size) (hl : xs.length ≤ 1048576) :
    Calls Try.prog 15 #[v] w fun e w' => ∃ v', e = .returned v' ∧ w'.ownsRow w.heap.size 5 1 v' xs.length (xs.map (Value.int .u8)) ∧ Below w.heap.size w w' := by
  obtain ⟨a1, c1, b1, o1, rfl, g1, f1⟩ := h
  have hnil := fun w : World => Lib.run_eql_slice_nil (P := Try.prog) w 31 5 a1 xs.length c1 0 0 Try.underlying31
  cases a1 with
  | none =>
    have h0 : xs = [] := by
      cases xs with
      | nil => rfl
      | cons x xs => exact absurd (g1 (by simp)).1 (by simp)
    subst h0
    clear g1 f1
    simp only [List.length_nil, Option.isNone_none] at hnil ⊢
    go_enter Try.func15, Try.ntmps15
    go_wp2
    go_ret
    exact ⟨_, rfl, World.ownsRow_nil _ _ _ _, Below.refl _ _⟩
  | some ad =>
    have hmk := run_make_row' (P := Try.prog) 31 5 (.int .u8 0) 1 Try.underlying31 cinfo5 rfl .i64 .i64 xs.length (by omega) (by omega)
    have C0 := cl_start (c := Value.int .u8) (d := 0) (E := 5) w xs rfl
    go_enter Try.func15, Try.ntmps15
    go_wp2
    go_loopw [4] (fun i wr => ∃ k : Nat, k ≤ xs.length ∧ i = .int .i64 k ∧ Cl (Value.int .u8) 0 5 w xs k wr) (fun i _ => xs.length - (intOf i).toNat)
    case atStart => exact ⟨0, Nat.zero_le _, rfl, C0⟩
    case round =>
      obtain ⟨k, hk, rfl, hcl⟩ := hrel
      by_cases hlt : k < xs.length
      · obtain ⟨ha, hb1⟩ := g1 (by omega)
        simp only [Option.some.injEq] at ha
        subst ha
        have e1 : wr.cell? ⟨b1, o1 + k, none⟩ = some (.int .u8 (xs.getD k 0)) := (hcl.bel.cell (by show b1 < _; omega)).trans (f1 k hlt)
        have e2 := hcl.row.cell (i := k) hlt
        have e3 := hcl.row.frozen k
        have R := cl_step hcl
        clear hcl f1 g1 C0
        generalize xs.getD k 0 = z at *
        go_wp2
        go_roundw
        case rel => exact ⟨k + 1, by omega, by go_num, R⟩
        case measure => simp [intOf]; omega
      · have hke : k = xs.length := by omega
        subst hke
        go_wp2
        go_ret
        exact ⟨_, rfl, cl_end hcl (by unfold maxLen; omega), hcl.bel⟩
end Go.Proofs.Qxb6608879a.base
