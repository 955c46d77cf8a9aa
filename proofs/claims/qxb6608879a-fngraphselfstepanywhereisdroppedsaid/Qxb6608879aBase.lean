/- What the walks of this seat share: a slice that can be read ('Rd'); the three comparisons zzEqualBytes, zzEqualInts, zzEqualBools. -/
import Derived.Test.Qxb6608879aRows
import Derived.WalkKit
import Derived.ProofKit
import Derived.OpenShut
import Derived.Deep.QuietTactic
import Derived.BigQuiet
import Derived.WalkSmall
import Derived.Handy
namespace Go.Proofs.Qxb6608879a.base
open Go.ChangeShapes Go.WideShapes Go.ChangeAt Go.RowKit
set_option linter.unusedVariables false

/-- The slice v, whose cells lie below block B, reads as the list xs: cell i holds 'c' of element i. Of an empty slice nothing is asked. -/
def Rd {α : Type} (c : α → Value) (d : α) (B : Nat) (w : World) (v : Value) (xs : List α) : Prop :=
  ∃ ao cap b off, v = .slice ao xs.length cap ∧ (0 < xs.length → ao = some ⟨b, off, none⟩ ∧ b < B) ∧
    ∀ i, i < xs.length → w.cell? ⟨b, off + i, none⟩ = some (c (xs.getD i d))

theorem Rd.below {α : Type} {c : α → Value} {d : α} {B : Nat} {w w' : World} {v : Value} {xs : List α} (h : Rd c d B w v xs) (hb : Below B w w') : Rd c d B w' v xs := by
  obtain ⟨ao, cap, b, off, hv, h1, h2⟩ := h
  refine ⟨ao, cap, b, off, hv, h1, fun i hi => ?_⟩
  rw [hb.cell (p := ⟨b, off + i, none⟩) (h1 (by omega)).2]
  exact h2 i hi

theorem Rd.mono {α : Type} {c : α → Value} {d : α} {B B' : Nat} {w : World} {v : Value} {xs : List α} (h : Rd c d B w v xs) (hb : B ≤ B') : Rd c d B' w v xs := by
  obtain ⟨ao, cap, b, off, hv, h1, h2⟩ := h
  exact ⟨ao, cap, b, off, hv, fun h => ⟨(h1 h).1, by have := (h1 h).2; omega⟩, h2⟩

set_option maxHeartbeats 400000 in
theorem equal_bytes {B1 B2 : Nat} {w : World} {v1 v2 : Value} {xs : List Int} (h1 : Rd (Value.int .u8) 0 B1 w v1 xs) (h2 : Rd (Value.int .u8) 0 B2 w v2 xs) (hl : xs.length ≤ 140737488355328) :
    Calls Try.prog 21 #[v1, v2] w fun e w' => e = .returned (.bool true) ∧ ∃ n, w' = w.drewN n := by
  obtain ⟨a1, c1, b1, o1, rfl, g1, f1⟩ := h1
  obtain ⟨a2, c2, b2, o2, rfl, g2, f2⟩ := h2
  go_enter Try.func21, Try.ntmps21
  go_wp2
  go_loopw [5] (fun i wr => ∃ k : Nat, k ≤ xs.length ∧ i = .int .i64 k ∧ ∃ m, wr = w.drewN m) (fun i _ => xs.length - (intOf i).toNat)
  case atStart => exact ⟨0, Nat.zero_le _, rfl, 0, rfl⟩
  case round =>
    obtain ⟨k, hk, rfl, m, rfl⟩ := hrel
    by_cases hlt : k < xs.length
    · obtain ⟨rfl, _⟩ := g1 (by omega)
      obtain ⟨rfl, _⟩ := g2 (by omega)
      have e1 := f1 k hlt
      have e2 := f2 k hlt
      clear f1 f2 g1 g2
      go_wp2
      go_quiet (fail)
      go_wp2
      go_roundw
      case rel => exact ⟨k + 1, by omega, by go_num, _, rfl⟩
      case measure => simp [intOf]; omega
    · go_wp2
      go_ret
      exact ⟨rfl, _, rfl⟩
set_option maxHeartbeats 400000 in
theorem equal_ints {B1 B2 : Nat} {w : World} {v1 v2 : Value} {xs : List Int} (h1 : Rd (Value.int .i64) 0 B1 w v1 xs) (h2 : Rd (Value.int .i64) 0 B2 w v2 xs) (hl : xs.length ≤ 140737488355328) :
    Calls Try.prog 19 #[v1, v2] w fun e w' => e = .returned (.bool true) ∧ ∃ n, w' = w.drewN n := by
  obtain ⟨a1, c1, b1, o1, rfl, g1, f1⟩ := h1
  obtain ⟨a2, c2, b2, o2, rfl, g2, f2⟩ := h2
  go_enter Try.func19, Try.ntmps19
  go_wp2
  go_loopw [5] (fun i wr => ∃ k : Nat, k ≤ xs.length ∧ i = .int .i64 k ∧ ∃ m, wr = w.drewN m) (fun i _ => xs.length - (intOf i).toNat)
  case atStart => exact ⟨0, Nat.zero_le _, rfl, 0, rfl⟩
  case round =>
    obtain ⟨k, hk, rfl, m, rfl⟩ := hrel
    by_cases hlt : k < xs.length
    · obtain ⟨rfl, _⟩ := g1 (by omega)
      obtain ⟨rfl, _⟩ := g2 (by omega)
      have e1 := f1 k hlt
      have e2 := f2 k hlt
      clear f1 f2 g1 g2
      go_wp2
      go_quiet (fail)
      go_wp2
      go_roundw
      case rel => exact ⟨k + 1, by omega, by go_num, _, rfl⟩
      case measure => simp [intOf]; omega
    · go_wp2
      go_ret
      exact ⟨rfl, _, rfl⟩
set_option maxHeartbeats 400000 in
theorem equal_bools {B1 B2 : Nat} {w : World} {v1 v2 : Value} {xs : List Bool} (h1 : Rd Value.bool false B1 w v1 xs) (h2 : Rd Value.bool false B2 w v2 xs) (hl : xs.length ≤ 140737488355328) :
    Calls Try.prog 20 #[v1, v2] w fun e w' => e = .returned (.bool true) ∧ ∃ n, w' = w.drewN n := by
  obtain ⟨a1, c1, b1, o1, rfl, g1, f1⟩ := h1
  obtain ⟨a2, c2, b2, o2, rfl, g2, f2⟩ := h2
  go_enter Try.func20, Try.ntmps20
  go_wp2
  go_loopw [5] (fun i wr => ∃ k : Nat, k ≤ xs.length ∧ i = .int .i64 k ∧ ∃ m, wr = w.drewN m) (fun i _ => xs.length - (intOf i).toNat)
  case atStart => exact ⟨0, Nat.zero_le _, rfl, 0, rfl⟩
  case round =>
    obtain ⟨k, hk, rfl, m, rfl⟩ := hrel
    by_cases hlt : k < xs.length
    · obtain ⟨rfl, _⟩ := g1 (by omega)
      obtain ⟨rfl, _⟩ := g2 (by omega)
      have e1 := f1 k hlt
      have e2 := f2 k hlt
      clear f1 f2 g1 g2
      go_wp2
      go_quiet (fail)
      go_wp2
      go_roundw
      case rel => exact ⟨k + 1, by omega, by go_num, _, rfl⟩
      case measure => simp [intOf]; omega
    · go_wp2
      go_ret
      exact ⟨rfl, _, rfl⟩
end Go.Proofs.Qxb6608879a.base
