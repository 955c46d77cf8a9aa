/- (*keyTable).record and (*keyTable).key by their contracts. -/
import Derived.Test.Qxb6608879aUv
namespace Go.Proofs.Qxb6608879a.base
open Go.ChangeShapes Go.WideShapes Go.ChangeAt Go.RowKit
set_option linter.unusedVariables false

theorem and65535 (p c r : Nat) (hp : p = c * 65536 + r) (hr : r < 65536) (hp2 : p ≤ 4194304) : bits .and .i64 (p : Int) 65535 = (r : Int) := by
  have h := bits_mask .i64 63 (by decide) (fun n h0 h1 => by rw [IntKind.wrap_i64]; omega) 16 (by decide) (p : Int) (by omega) (by omega)
  have e : (2 : Int) ^ 16 - 1 = 65535 := by decide
  rw [e] at h
  rw [h]
  omega

set_option maxRecDepth 100000 in
set_option maxHeartbeats 800000 in
theorem record_at (T g g2 n p c r o M : Nat) (w : World) (hp : p = c * 65536 + r) (hr : r < 65536) (hp2 : p ≤ 4194304) (hc : c < n) (hrM : r < M) (hM : M ≤ 4194304)
    (ct : w.cell? ⟨T, 4, none⟩ = some (.slice (some ⟨g2, 0, none⟩) n n)) (cc : w.cell? ⟨g2, c, none⟩ = some (.slice (some ⟨g, o, none⟩) M M)) :
    Calls Try.prog 33 #[.pointer (some ⟨T, 0, none⟩), .int .u64 ((p : Int) + 1)] w fun e w' => e = .returned (.slice (some ⟨g, o + r, none⟩) (M - r) (M - r)) ∧ w' = w := by
  have e1 := and65535 p c r hp hr hp2
  have e2 : (p : Int) / 65536 = (c : Int) := by omega
  clear hp
  go_enter Try.func33, Try.ntmps33
  go_wp2
  go_ret
  exact ⟨rfl, rfl⟩

/-- What is known of the table, the arena and the record's place: the table lies at block T, its chunks at g2, the arena at g; the record begins at P; R bytes of the arena are left there. -/
structure At (w : World) (T g g2 n p c r o M : Nat) (ix : Bool) : Prop where
  hp : p = c * 65536 + r
  hr : r < 65536
  hp2 : p ≤ 4194304
  hc : c < n
  hrM : r < M
  hM : M ≤ 4194304
  ct : w.cell? ⟨T, 4, none⟩ = some (.slice (some ⟨g2, 0, none⟩) n n)
  cc : w.cell? ⟨g2, c, none⟩ = some (.slice (some ⟨g, o, none⟩) M M)
  ci : w.cell? ⟨T, 1, none⟩ = some (.bool ix)

theorem At.record {w : World} {T g g2 n p c r o M : Nat} {ix : Bool} (h : At w T g g2 n p c r o M ix) :
    Calls Try.prog 33 #[.pointer (some ⟨T, 0, none⟩), .int .u64 ((p : Int) + 1)] w fun e w' => e = .returned (.slice (some ⟨g, o + r, none⟩) (M - r) (M - r)) ∧ w' = w :=
  record_at T g g2 n p c r o M w h.hp h.hr h.hp2 h.hc h.hrM h.hM h.ct h.cc

/-- The call hands back a slice of m elements which, where there are any, begins at ⟨g, q⟩. -/
def Got (g q m : Nat) (e : Ending) : Prop := ∃ A C, e = .returned (.slice A m C) ∧ (0 < m → A = some ⟨g, q, none⟩)
theorem got_mk {g q m C : Nat} {A : Option Addr} (h : 0 < m → A = some ⟨g, q, none⟩) : Got g q m (.returned (.slice A m C)) := ⟨A, C, rfl, h⟩
theorem got_mk2 {g q m m' C : Nat} {A : Option Addr} (e : m' = m) (h : 0 < m → A = some ⟨g, q, none⟩) : Got g q m (.returned (.slice A m' C)) := by subst e; exact ⟨A, C, rfl, h⟩

set_option maxRecDepth 100000 in
set_option maxHeartbeats 800000 in
theorem key1 {w : World} {T g g2 n p c r o M m : Nat} {ix : Bool} (h : At w T g g2 n p c r o M ix) (d P R : Nat) (hP : P = o + r) (hR : R = M - r) (hd : d = if ix then 8 else 0)
    (hm : m < 128) (hfit : d + 1 + m ≤ R) (c0 : w.cell? ⟨g, P + d, none⟩ = some (.int .u8 (m : Int))) :
    Calls Try.prog 32 #[.pointer (some ⟨T, 0, none⟩), .int .u64 ((p : Int) + 1)] w fun e w' => Got g (P + d + 1) m e ∧ w' = w := by
  have hrec := h.record
  have ci := h.ci
  have hR2 : R ≤ 4194304 := by have := h.hM; omega
  rw [← hP, ← hR] at hrec
  clear h hP hR
  have HR : Hid (Calls Try.prog 33 #[.pointer (some ⟨T, 0, none⟩), .int .u64 ((p : Int) + 1)] w fun e w' => e = .returned (.slice (some ⟨g, P, none⟩) R R) ∧ w' = w) := hrec
  clear hrec
  cases ix
  · simp only [Bool.false_eq_true, if_false] at hd
    subst hd
    simp only [Nat.add_zero] at c0 ⊢
    go_enter Try.func32, Try.ntmps32
    go_wp2_with fail
    refine HR.out.mono ?_
    rintro e w1 ⟨rfl, rfl⟩
    go_wp2
    all_goals go_ret
    · exact ⟨got_mk (fun h => absurd h (by omega)), rfl⟩
    · exact ⟨got_mk (fun _ => rfl), rfl⟩
  · simp only [if_true] at hd
    subst hd
    go_enter Try.func32, Try.ntmps32
    go_wp2_with fail
    refine HR.out.mono ?_
    rintro e w1 ⟨rfl, rfl⟩
    go_wp2
    all_goals go_ret
    · exact ⟨got_mk (fun h => absurd h (by omega)), rfl⟩
    · exact ⟨got_mk (fun _ => rfl), rfl⟩

set_option maxRecDepth 100000 in
set_option maxHeartbeats 800000 in
theorem key2 {w : World} {T g g2 n p c r o M m : Nat} {ix : Bool} (h : At w T g g2 n p c r o M ix) (d P R : Nat) (hP : P = o + r) (hR : R = M - r) (hd : d = if ix then 8 else 0)
    (hm : 128 ≤ m) (hm2 : m < 16384) (hfit : d + 2 + m ≤ R) (c0 : w.cell? ⟨g, P + d, none⟩ = some (.int .u8 ((m % 128 + 128 : Nat) : Int))) (c1 : w.cell? ⟨g, P + d + 1, none⟩ = some (.int .u8 ((m / 128 : Nat) : Int))) :
    Calls Try.prog 32 #[.pointer (some ⟨T, 0, none⟩), .int .u64 ((p : Int) + 1)] w fun e w' => Got g (P + d + 2) m e ∧ w' = w := by
  have hrec := h.record
  have ci := h.ci
  have hR2 : R ≤ 4194304 := by have := h.hM; omega
  rw [← hP, ← hR] at hrec
  clear h hP hR
  have HR : Hid (Calls Try.prog 33 #[.pointer (some ⟨T, 0, none⟩), .int .u64 ((p : Int) + 1)] w fun e w' => e = .returned (.slice (some ⟨g, P, none⟩) R R) ∧ w' = w) := hrec
  clear hrec
  obtain ⟨b0, hb0⟩ : ∃ b, b = m % 128 + 128 := ⟨_, rfl⟩
  obtain ⟨b1, hb1⟩ : ∃ b, b = m / 128 := ⟨_, rfl⟩
  rw [← hb0] at c0
  rw [← hb1] at c1
  have k0 : 128 ≤ b0 := by omega
  have k0' : b0 < 256 := by omega
  have k1 : b1 < 128 := by omega
  have E : Hid (b0 - 128 + b1 * 128 = m) := by show b0 - 128 + b1 * 128 = m; omega
  clear hb0 hb1
  cases ix
  · simp only [Bool.false_eq_true, if_false] at hd
    subst hd
    simp only [Nat.add_zero] at c0 c1 ⊢
    go_enter Try.func32, Try.ntmps32
    go_wp2_with fail
    refine HR.out.mono ?_
    rintro e w1 ⟨rfl, rfl⟩
    go_wp2_with fail
    refine (uv2 g P R R b0 b1 _ (by omega) (by omega) k0 k0' k1 c0 c1).mono ?_
    rintro e w2 ⟨rfl, rfl⟩
    rw [E.out]
    go_wp2
    go_ret
    exact ⟨got_mk2 (by omega) (fun _ => rfl), rfl⟩
  · simp only [if_true] at hd
    subst hd
    go_enter Try.func32, Try.ntmps32
    go_wp2_with fail
    refine HR.out.mono ?_
    rintro e w1 ⟨rfl, rfl⟩
    go_wp2_with fail
    refine (uv2 g (P + 8) (R - 8) (R - 8) b0 b1 _ (by omega) (by omega) k0 k0' k1 c0 c1).mono ?_
    rintro e w2 ⟨rfl, rfl⟩
    rw [E.out]
    go_wp2
    go_ret
    exact ⟨got_mk2 (by omega) (fun _ => rfl), rfl⟩

set_option maxRecDepth 100000 in
set_option maxHeartbeats 800000 in
theorem key3 {w : World} {T g g2 n p c r o M m : Nat} {ix : Bool} (h : At w T g g2 n p c r o M ix) (d P R : Nat) (hP : P = o + r) (hR : R = M - r) (hd : d = if ix then 8 else 0)
    (hm : 16384 ≤ m) (hm2 : m < 2097152) (hfit : d + 3 + m ≤ R) (c0 : w.cell? ⟨g, P + d, none⟩ = some (.int .u8 ((m % 128 + 128 : Nat) : Int))) (c1 : w.cell? ⟨g, P + d + 1, none⟩ = some (.int .u8 ((m / 128 % 128 + 128 : Nat) : Int))) (c2 : w.cell? ⟨g, P + d + 2, none⟩ = some (.int .u8 ((m / 16384 : Nat) : Int))) :
    Calls Try.prog 32 #[.pointer (some ⟨T, 0, none⟩), .int .u64 ((p : Int) + 1)] w fun e w' => Got g (P + d + 3) m e ∧ w' = w := by
  have hrec := h.record
  have ci := h.ci
  have hR2 : R ≤ 4194304 := by have := h.hM; omega
  rw [← hP, ← hR] at hrec
  clear h hP hR
  have HR : Hid (Calls Try.prog 33 #[.pointer (some ⟨T, 0, none⟩), .int .u64 ((p : Int) + 1)] w fun e w' => e = .returned (.slice (some ⟨g, P, none⟩) R R) ∧ w' = w) := hrec
  clear hrec
  obtain ⟨b0, hb0⟩ : ∃ b, b = m % 128 + 128 := ⟨_, rfl⟩
  obtain ⟨b1, hb1⟩ : ∃ b, b = m / 128 % 128 + 128 := ⟨_, rfl⟩
  obtain ⟨b2, hb2⟩ : ∃ b, b = m / 16384 := ⟨_, rfl⟩
  rw [← hb0] at c0
  rw [← hb1] at c1
  rw [← hb2] at c2
  have k0 : 128 ≤ b0 := by omega
  have k0' : b0 < 256 := by omega
  have k1 : 128 ≤ b1 := by omega
  have k1' : b1 < 256 := by omega
  have k2 : b2 < 128 := by omega
  have E : Hid (b0 - 128 + (b1 - 128) * 128 + b2 * 16384 = m) := by show b0 - 128 + (b1 - 128) * 128 + b2 * 16384 = m; omega
  clear hb0 hb1 hb2
  cases ix
  · simp only [Bool.false_eq_true, if_false] at hd
    subst hd
    simp only [Nat.add_zero] at c0 c1 c2 ⊢
    go_enter Try.func32, Try.ntmps32
    go_wp2_with fail
    refine HR.out.mono ?_
    rintro e w1 ⟨rfl, rfl⟩
    go_wp2_with fail
    refine (uv3 g P R R b0 b1 b2 _ (by omega) (by omega) k0 k0' k1 k1' k2 c0 c1 c2).mono ?_
    rintro e w2 ⟨rfl, rfl⟩
    rw [E.out]
    go_wp2
    go_ret
    exact ⟨got_mk2 (by omega) (fun _ => rfl), rfl⟩
  · simp only [if_true] at hd
    subst hd
    go_enter Try.func32, Try.ntmps32
    go_wp2_with fail
    refine HR.out.mono ?_
    rintro e w1 ⟨rfl, rfl⟩
    go_wp2_with fail
    refine (uv3 g (P + 8) (R - 8) (R - 8) b0 b1 b2 _ (by omega) (by omega) k0 k0' k1 k1' k2 c0 c1 c2).mono ?_
    rintro e w2 ⟨rfl, rfl⟩
    rw [E.out]
    go_wp2
    go_ret
    exact ⟨got_mk2 (by omega) (fun _ => rfl), rfl⟩
end Go.Proofs.Qxb6608879a.base
