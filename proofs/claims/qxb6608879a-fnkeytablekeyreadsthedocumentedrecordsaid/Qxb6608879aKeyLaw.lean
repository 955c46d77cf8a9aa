/- The law on (*keyTable).key, out of the contracts. -/
import Derived.Test.Qxb6608879aKey
import Derived.Test.Qxb6608879aRecord
import Derived.Test.Qxb6608879aArena
namespace Go.Proofs.Qxb6608879a.base
open Go.ChangeShapes Go.WideShapes Go.ChangeAt Go.RowKit
set_option linter.unusedVariables false

theorem getD_app (pre q : List Int) (j : Nat) : (pre ++ q).getD (pre.length + j) 0 = q.getD j 0 := by
  simp [List.getD_eq_getElem?_getD, List.getElem?_append_right]

/-- key at a record that is laid as the package documents it: the key. -/
theorem key_any {w : World} {T g g2 n p c r o M : Nat} {ix : Bool} (h : At w T g g2 n p c r o M ix) (d P R : Nat) (hP : P = o + r) (hR : R = M - r) (hd : d = if ix then 8 else 0)
    (pre key : List Int) (hpre : pre.length = P + d) (hk : key.length ≤ 524288) (hfit : d + (U key.length).length + key.length ≤ R)
    (hc : ∀ j, j < P + R → w.cell? ⟨g, j, none⟩ = some (.int .u8 ((pre ++ (U key.length ++ key)).getD j 0))) :
    Calls Try.prog 32 #[.pointer (some ⟨T, 0, none⟩), .int .u64 ((p : Int) + 1)] w fun e w' => ∃ got, e = .returned got ∧ Rd (Value.int .u8) 0 (g + 1) w got key ∧ w' = w := by
  have hcell : ∀ j, d + j < R → w.cell? ⟨g, P + d + j, none⟩ = some (.int .u8 ((U key.length ++ key).getD j 0)) := by
    intro j hj
    rw [hc (P + d + j) (by omega), ← hpre, getD_app]
  have hkey : ∀ j, j < key.length → w.cell? ⟨g, P + d + (U key.length).length + j, none⟩ = some (.int .u8 (key.getD j 0)) := by
    intro j hj
    rw [Nat.add_assoc (P + d), hcell _ (by omega), getD_app]
  have fin : ∀ (e : Ending) (w' : World), Got g (P + d + (U key.length).length) key.length e ∧ w' = w → ∃ got, e = .returned got ∧ Rd (Value.int .u8) 0 (g + 1) w got key ∧ w' = w := by
    rintro e w' ⟨⟨A, C, rfl, hA⟩, rfl⟩
    exact ⟨_, rfl, ⟨A, C, g, _, rfl, fun hpos => ⟨hA hpos, by omega⟩, hkey⟩, rfl⟩
  by_cases h1 : key.length < 128
  · have hU := U_small _ h1
    rw [hU] at fin hcell hfit
    simp only [List.length_singleton] at fin hfit
    have c0 := hcell 0 (by omega)
    simp at c0
    exact (key1 h d P R hP hR hd h1 (by omega) c0).mono fun e w' hh => fin e w' hh
  · by_cases h2 : key.length < 16384
    · have hU := U_two _ (by omega) h2
      rw [hU] at fin hcell hfit
      simp only [List.length_cons, List.length_nil] at fin hfit
      have c0 := hcell 0 (by omega)
      have c1 := hcell 1 (by omega)
      simp only [List.getD_eq_getElem?_getD, List.cons_append, List.getElem?_cons_zero, List.getElem?_cons_succ, Option.getD_some, Nat.add_zero] at c0 c1
      exact (key2 h d P R hP hR hd (by omega) h2 (by omega) c0 c1).mono fun e w' hh => fin e w' hh
    · have hU := U_three key.length (by omega)
      rw [hU] at fin hcell hfit
      simp only [List.length_cons, List.length_nil] at fin hfit
      have c0 := hcell 0 (by omega)
      have c1 := hcell 1 (by omega)
      have c2 := hcell 2 (by omega)
      simp only [List.getD_eq_getElem?_getD, List.cons_append, List.getElem?_cons_zero, List.getElem?_cons_succ, Option.getD_some, Nat.add_zero] at c0 c1 c2
      exact (key3 h d P R hP hR hd (by omega) (by omega) (by omega) c0 c1 c2).mono fun e w' hh => fin e w' hh

theorem own_shape {B : Nat} {w : World} {v : Value} {xs : List Int} (h : Own B w v xs) : ∃ ao cap, v = .slice ao xs.length cap := by
  rcases h.2 with ⟨rfl, h0⟩ | ⟨g, cap, cur, rfl, _⟩
  · exact ⟨none, 0, by rw [h0]⟩
  · exact ⟨_, cap, rfl⟩

theorem own_rd {B : Nat} {w : World} {v : Value} {xs : List Int} (h : Own B w v xs) : Rd (Value.int .u8) 0 w.heap.size w v xs := by
  have hlt := World.ownsRow.lt h
  have hcs := @World.ownsRow.cells _ _ _ _ _ _ _ h
  rcases h.2 with ⟨rfl, h0⟩ | ⟨g, cap, cur, rfl, _⟩
  · exact ⟨none, 0, 0, 0, by rw [h0], fun h => absurd h (by omega), fun i hi => absurd hi (by omega)⟩
  · refine ⟨some ⟨g, 0, none⟩, cap, g, 0, rfl, fun _ => ⟨rfl, (hlt g rfl).2⟩, fun i hi => ?_⟩
    have := hcs (g := g) rfl i (.int .u8 (xs.getD i 0)) (by simp [hi])
    have hadd : (⟨g, 0, none⟩ : Addr).add i = ⟨g, i, none⟩ := by unfold Addr.add; split <;> simp_all
    rw [hadd] at this
    rw [Nat.zero_add]
    exact this

theorem bytes_key (a0 : Bool) (a1 : Int) (a2 : Option Addr) (len2 cap2 : Nat) (a3 : Option Addr) (len3 cap3 : Nat) (w : World) (h2 : len2 ≤ maxLen) (h3 : len3 ≤ maxLen) :
    Calls Try.prog 23 #[.bool a0, .int .u64 a1, .slice a2 len2 cap2, .slice a3 len3 cap3] w fun e w' => ∃ b, e = .returned (.bool b) ∧ w' = w ∧ (len2 ≤ 524288 → len3 ≤ 524288 → b = true) := by
  unfold maxLen at h2 h3
  by_cases k2 : len2 ≤ 1048576
  · by_cases k3 : len3 ≤ 1048576
    · by_cases k4 : len2 + len3 ≤ 1048576
      · go_enter Try.func23, Try.ntmps23
        go_wp2
        go_ret
        exact ⟨true, rfl, rfl, fun _ _ => rfl⟩
      · go_enter Try.func23, Try.ntmps23
        go_wp2
        go_ret
        exact ⟨false, rfl, rfl, fun _ _ => by omega⟩
    · go_enter Try.func23, Try.ntmps23
      go_wp2
      go_ret
      exact ⟨false, rfl, rfl, fun _ _ => by omega⟩
  · go_enter Try.func23, Try.ntmps23
    go_wp2
    go_ret
    exact ⟨false, rfl, rfl, fun _ _ => by omega⟩

/-- ZZnewKeyTable: a table in a new block. -/
theorem new_table (ix : Bool) (ca : Option Addr) (cl cc : Nat) (e : Int) (w : World) :
    Calls Try.prog 26 #[.bool ix, .slice ca cl cc, .int .i64 e] w fun en w' => en = .returned (.pointer (some ⟨w.heap.size, 0, none⟩)) ∧ Below w.heap.size w w' ∧
      w'.cell? ⟨w.heap.size, 1, none⟩ = some (.bool ix) ∧ w'.cell? ⟨w.heap.size, 4, none⟩ = some (.slice ca cl cc) ∧ w'.heap.size = w.heap.size + 1 := by
  go_enter Try.func26, Try.ntmps26
  go_wp2
  go_ret
  exact ⟨rfl, (Below.refl _ _).alloc (Nat.le_refl _) _, by simp [go_sem], by simp [go_sem], by simp⟩
end Go.Proofs.Qxb6608879a.base
