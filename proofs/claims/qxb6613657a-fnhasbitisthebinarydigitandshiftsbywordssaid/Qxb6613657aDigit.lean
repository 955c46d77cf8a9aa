/- The walk of FnHasBitIsTheBinaryDigitAndShiftsByWords. -/
import Derived.Test.Qxb6613657aCopy
import Derived.Deep.CutRange
namespace Go.Proofs.Qxb6613657a.base
open Go.ChangeShapes Go.WideShapes Go.ChangeAt Go.RowKit
set_option linter.unusedVariables false

/-- The law returns true at once. -/
theorem big6 (a : Option Addr) (l c : Nat) (i : Int) (w : World) (h : l ≤ maxLen) (hi : i ≤ 9223372036854775807) (hbig : ¬ (l ≤ 65536 ∧ 0 ≤ i ∧ i / 64 < (l : Int))) :
    Calls Try.prog 6 #[.slice a l c, .int .i64 i] w fun e w' => e = .returned (.bool true) ∧ Below w.heap.size w w' := by
  have HB : Hid (¬ (l ≤ 65536 ∧ 0 ≤ i ∧ i / 64 < (l : Int))) := hbig
  clear hbig
  go_enter Try.func6, Try.ntmps6
  go_wp2_with fail
  refine (bytes_row2 a l c i _ h).mono ?_
  rintro e w1 ⟨b, rfl, rfl, _⟩
  unfold maxLen at h
  cases b
  · go_wp2_with fail
    go_ret
    exact ⟨rfl, Below.refl _ _⟩
  · by_cases k1 : l ≤ 65536
    · by_cases k2 : 0 ≤ i
      · have k3 : ¬ i / 64 < (l : Int) := fun h => HB.out ⟨k1, k2, h⟩
        go_wp2_with fail
        go_ret
        exact ⟨rfl, Below.refl _ _⟩
      · go_wp2_with fail
        go_ret
        exact ⟨rfl, Below.refl _ _⟩
    · go_wp2_with fail
      go_ret
      exact ⟨rfl, Below.refl _ _⟩

theorem want_bit (x r : Nat) : (((x / 2 ^ r : Nat) : Int) % 2 == 1) = x.testBit r := by
  rw [Nat.testBit_eq_decide_div_mod_eq]
  generalize x / 2 ^ r = y
  rcases Nat.mod_two_eq_zero_or_one y with h | h
  · rw [h]
    have : (y : Int) % 2 = 0 := by omega
    rw [this]; rfl
  · rw [h]
    have : (y : Int) % 2 = 1 := by omega
    rw [this]; rfl

set_option maxRecDepth 100000 in
set_option maxHeartbeats 800000 in
theorem main6 (b off c q r x : Nat) (i : Int) (xs : List Int) (w : World) (hl : xs.length ≤ 65536) (hi0 : 0 ≤ i) (h1 : i / 64 = (q : Int)) (h2 : i % 64 = (r : Int)) (hr : r < 64) (hq : q < xs.length) (hx : x < 18446744073709551616) (hxq : xs.getD q 0 = (x : Int))
    (hc : ∀ i, i < xs.length → w.cell? ⟨b, off + i, none⟩ = some (.int .u64 (xs.getD i 0))) (hb : b < w.heap.size) :
    Calls Try.prog 6 #[.slice (some ⟨b, off, none⟩) xs.length c, .int .i64 i] w fun e w' => e = .returned (.bool true) ∧ Below w.heap.size w w' := by
  have hmk := run_make_row' (P := Try.prog) 23 36 (.int .u64 0) 8 Try.underlying23 info36 rfl .i64 .i64 xs.length (by omega) (by omega)
  have HC : Hid (∀ i, i < xs.length → w.cell? ⟨b, off + i, none⟩ = some (.int .u64 (xs.getD i 0))) := hc
  have hnn := fun w : World => run_neq_slice_nil (P := Try.prog) w 23 36 (some ⟨b, off, none⟩) xs.length c Try.underlying23
  have HX : Hid (xs.getD q 0 = (x : Int)) := hxq
  obtain ⟨cs, hcs⟩ : ∃ cs, cs = xs.map (Value.int .u64) := ⟨_, rfl⟩
  have HCS : Hid (cs = xs.map (Value.int .u64)) := hcs
  have hcl : cs.length ≤ xs.length := by rw [hcs]; simp
  have hcl2 : xs.length ≤ cs.length := by rw [hcs]; simp
  have H1 : Hid (i / 64 = (q : Int)) := h1
  have H2 : Hid (i % 64 = (r : Int)) := h2
  have hilt : i / 64 < (xs.length : Int) := by omega
  have hib : i ≤ 4194304 := by omega
  clear hc hxq hcs h1 h2
  go_enter Try.func6, Try.ntmps6
  go_wp2_with fail
  refine (bytes_row2 _ _ c _ _ (by unfold maxLen; omega)).mono ?_
  rintro e w1 ⟨bb, rfl, rfl, hbb⟩
  obtain rfl := hbb hl
  clear hbb
  go_upto_region 11 with (fail)
  go_upto_region 12 with (refine wpList_copy_splice rfl (.tmp 31) (.tmp 32) 23 23 rfl 36 Try.underlying23 size36 _ _ _ _ _ _ rfl rfl w1.heap.size 0 (List.replicate xs.length (.int .u64 0)) 36 ?d1 cs ?d2 ?d3 ?d4 ?d5 w1.heap.size w1 ?d6 ?d7 ?_)
  case d1 =>
    rw [made]
    show (w1.heap.push _)[w1.heap.size]? = _
    simp
  case d2 => simp; omega
  case d3 =>
    intro _ j v hj
    rw [HCS.out, List.getElem?_map] at hj
    have hjl : j < xs.length := by
      cases hh : xs[j]? with
      | none => rw [hh] at hj; simp at hj
      | some y => exact (List.getElem?_eq_some_iff.1 hh).1
    rw [HC.out j hjl, ← hj]
    simp [hjl]
  case d4 => simp; omega
  case d5 =>
    rw [HCS.out]
    exact ints_oneCell _ _
  case d6 => exact (Below.refl _ _).alloc (Nat.le_refl _) _
  case d7 => exact Nat.le_refl _
  intro w2 HG hB2
  have hcell : w2.cell? ⟨w1.heap.size, q, none⟩ = some (.int .u64 (x : Int)) := by
    have h := HG.out
    rw [HCS.out] at h
    rw [← HX.out]
    exact copied rfl h q hq
  have HB2 : Hid (Below w1.heap.size w1 w2) := hB2
  clear HG HC HX HCS hmk hnn hcl hcl2 hB2
  obtain ⟨G, hG⟩ : ∃ G, G = w1.heap.size := ⟨_, rfl⟩
  rw [← hG] at hcell ⊢
  clear hG
  have hq2 : (q : Int) < (xs.length : Int) := by omega
  go_upto_region 14 with (fail)
  rw [H1.out]
  go_upto_region 15 with (fail)
  rw [show i - 64 * (q : Int) = (r : Int) from by have := H1.out; have := H2.out; omega]
  have hy0 : Hid (∀ k : Nat, x / 2 ^ k < 18446744073709551616) := fun k => Nat.lt_of_le_of_lt (Nat.div_le_self _ _) hx
  go_wp2_with fail
  go_loop [8, 9] (fun y t => ∃ k : Nat, k ≤ r ∧ t = .int .i64 k ∧ y = .int .u64 ((x / 2 ^ k : Nat) : Int)) (fun _ t => r - (intOf t).toNat)
  case atStart => exact ⟨0, Nat.zero_le _, rfl, by simp⟩
  case round =>
    obtain ⟨k, hk, rfl, rfl⟩ := hrel
    have hy1 := hy0.out k
    obtain ⟨y, hy⟩ : ∃ y, y = x / 2 ^ k := ⟨_, rfl⟩
    rw [← hy] at hy1 ⊢
    have HY : Hid (y = x / 2 ^ k) := hy
    clear hy
    by_cases hlt : k < r
    · have HD : Hid (x / 2 ^ (k + 1) = y / 2) := by show x / 2 ^ (k + 1) = y / 2; rw [HY.out]; exact div_succ x k
      go_wp2_with fail
      go_round
      case rel => exact ⟨k + 1, by omega, by go_num, by rw [HD.out]; go_num⟩
      case measure => simp [intOf]; omega
    · have hke : k = r := by omega
      subst hke
      have hw : (((y : Nat) : Int) % 2 == 1) = x.testBit k := by rw [HY.out]; exact want_bit x k
      have hcell2 : w2.cell? ⟨G, 0 + q, none⟩ = some (.int .u64 (x : Int)) := by simpa using hcell
      have hcell3 : w2.cell? ⟨G, q + 0, none⟩ = some (.int .u64 (x : Int)) := by simpa using hcell
      have HC2 : Hid (w2.cell? ⟨G, 0 + q, none⟩ = some (.int .u64 (x : Int))) := hcell2
      have HC3 : Hid (w2.cell? ⟨G, q + 0, none⟩ = some (.int .u64 (x : Int))) := hcell3
      clear hcell2 hcell3
      cases htb : x.testBit k
      all_goals
        rw [htb] at hw
        have HT : Hid (x.testBit k = _) := htb
        clear htb
        go_wp2_with fail
        refine (zz_bit G 0 xs.length xs.length q k x _ _ hi0 H1.out H2.out hr hq hl hx HC2.out).mono ?_
        rintro e w3 ⟨rfl, m1, rfl⟩
        rw [HT.out]
        go_wp2_with fail
        refine (zz_bit G q (xs.length - q) (xs.length - q) 0 k x (k : Int) _ (by omega) (by omega) (by omega) hr (by omega) (by omega) hx (show (w2.drewN m1).cell? _ = _ from HC3.out)).mono ?_
        rintro e w4 ⟨rfl, m2, rfl⟩
        rw [HT.out]
        go_wp2_with fail
        go_ret
        exact ⟨rfl, below_drewN HB2.out _⟩
end Go.Proofs.Qxb6613657a.base
