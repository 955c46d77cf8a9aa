/- The walk of FnHasBitRebuildsWord. -/
import Derived.Test.Qxb6613657aCopy
import Derived.Deep.CutRange
namespace Go.Proofs.Qxb6613657a.base
open Go.ChangeShapes Go.WideShapes Go.ChangeAt Go.RowKit
set_option linter.unusedVariables false

/-- The law returns true at once. -/
theorem big5 (a : Option Addr) (l c : Nat) (i : Int) (w : World) (h : l ≤ maxLen) (hbig : ¬ (l ≤ 65536 ∧ 0 ≤ i ∧ i < (l : Int))) :
    Calls Try.prog 5 #[.slice a l c, .int .i64 i] w fun e w' => e = .returned (.bool true) ∧ Below w.heap.size w w' := by
  have HB : Hid (¬ (l ≤ 65536 ∧ 0 ≤ i ∧ i < (l : Int))) := hbig
  clear hbig
  go_enter Try.func5, Try.ntmps5
  go_wp2_with fail
  refine (bytes_row a l c i _ h).mono ?_
  rintro e w1 ⟨b, rfl, rfl, _⟩
  unfold maxLen at h
  cases b
  · go_wp2_with fail
    go_ret
    exact ⟨rfl, Below.refl _ _⟩
  · by_cases k1 : l ≤ 65536
    · by_cases k2 : 0 ≤ i
      · have k3 : ¬ i < (l : Int) := fun h => HB.out ⟨k1, k2, h⟩
        go_wp2_with fail
        go_ret
        exact ⟨rfl, Below.refl _ _⟩
      · go_wp2_with fail
        go_ret
        exact ⟨rfl, Below.refl _ _⟩
    · go_wp2_with fail
      go_ret
      exact ⟨rfl, Below.refl _ _⟩

set_option maxRecDepth 100000 in
set_option maxHeartbeats 800000 in
theorem main5 (b off c q x : Nat) (xs : List Int) (w : World) (hl : xs.length ≤ 65536) (hq : q < xs.length) (hx : x < 18446744073709551616) (hxq : xs.getD q 0 = (x : Int))
    (hc : ∀ i, i < xs.length → w.cell? ⟨b, off + i, none⟩ = some (.int .u64 (xs.getD i 0))) (hb : b < w.heap.size) :
    Calls Try.prog 5 #[.slice (some ⟨b, off, none⟩) xs.length c, .int .i64 (q : Int)] w fun e w' => e = .returned (.bool true) ∧ Below w.heap.size w w' := by
  have hmk := run_make_row' (P := Try.prog) 23 36 (.int .u64 0) 8 Try.underlying23 info36 rfl .i64 .i64 xs.length (by omega) (by omega)
  have HC : Hid (∀ i, i < xs.length → w.cell? ⟨b, off + i, none⟩ = some (.int .u64 (xs.getD i 0))) := hc
  have hnn := fun w : World => run_neq_slice_nil (P := Try.prog) w 23 36 (some ⟨b, off, none⟩) xs.length c Try.underlying23
  have HX : Hid (xs.getD q 0 = (x : Int)) := hxq
  obtain ⟨cs, hcs⟩ : ∃ cs, cs = xs.map (Value.int .u64) := ⟨_, rfl⟩
  have HCS : Hid (cs = xs.map (Value.int .u64)) := hcs
  have hcl : cs.length ≤ xs.length := by rw [hcs]; simp
  have hcl2 : xs.length ≤ cs.length := by rw [hcs]; simp
  clear hc hxq hcs
  go_enter Try.func5, Try.ntmps5
  go_wp2_with fail
  refine (bytes_row _ _ c _ _ (by unfold maxLen; omega)).mono ?_
  rintro e w1 ⟨bb, rfl, rfl, hbb⟩
  obtain rfl := hbb hl
  clear hbb
  go_upto_region 9 with (fail)
  go_upto_region 10 with (refine wpList_copy_splice rfl (.tmp 28) (.tmp 29) 23 23 rfl 36 Try.underlying23 size36 _ _ _ _ _ _ rfl rfl w1.heap.size 0 (List.replicate xs.length (.int .u64 0)) 36 ?d1 cs ?d2 ?d3 ?d4 ?d5 w1.heap.size w1 ?d6 ?d7 ?_)
  case d1 =>
    rw [made]
    show (w1.heap.push _)[w1.heap.size]? = _
    simp
  case d2 => simp; omega
  case d3 =>
    intro _ j v hj
    rw [HCS.out, List.getElem?_map] at hj
    have hjl : j < xs.length := by
      cases hh : xs[j]? with
      | none => rw [hh] at hj; simp at hj
      | some y => exact (List.getElem?_eq_some_iff.1 hh).1
    rw [HC.out j hjl, ← hj]
    simp [hjl]
  case d4 => simp; omega
  case d5 =>
    rw [HCS.out]
    exact ints_oneCell _ _
  case d6 => exact (Below.refl _ _).alloc (Nat.le_refl _) _
  case d7 => exact Nat.le_refl _
  intro w2 HG hB2
  have hcell : w2.cell? ⟨w1.heap.size, q, none⟩ = some (.int .u64 (x : Int)) := by
    have h := HG.out
    rw [HCS.out] at h
    rw [← HX.out]
    exact copied rfl h q hq
  have HB2 : Hid (Below w1.heap.size w1 w2) := hB2
  clear HG HC HX HCS hmk hnn hcl hcl2 hB2
  obtain ⟨G, hG⟩ : ∃ G, G = w1.heap.size := ⟨_, rfl⟩
  rw [← hG] at hcell ⊢
  clear hG
  have hq2 : (q : Int) < (xs.length : Int) := by omega
  go_wp2_with fail
  go_loopw [6, 7] (fun acc i wr => ∃ k : Nat, k ≤ 64 ∧ i = .int .i64 k ∧ acc = .int .u64 ((x % 2 ^ k : Nat) : Int) ∧ ∃ m, wr = w2.drewN m) (fun _ i _ => 64 - (intOf i).toNat)
  case atStart => exact ⟨0, Nat.zero_le _, rfl, by simp [Nat.mod_one], 0, rfl⟩
  case round =>
    obtain ⟨k, hk, rfl, rfl, m, rfl⟩ := hrel
    by_cases hlt : k < 64
    · obtain ⟨y, hy⟩ : ∃ y, y = x % 2 ^ k := ⟨_, rfl⟩
      rw [← hy]
      have HY : Hid (y = x % 2 ^ k) := hy
      have hor := or_bit x k hlt
      rw [← hy] at hor
      have HOR : Hid (x.testBit k = true → bits .or .u64 (y : Int) (IntKind.u64.wrap ((2 : Int) ^ k)) = ((x % 2 ^ (k + 1) : Nat) : Int)) := hor
      have HNB : Hid (x.testBit k = false → x % 2 ^ (k + 1) = x % 2 ^ k) := no_bit x k
      clear hor hy
      go_wp2_with fail
      refine (zz_bit G 0 xs.length xs.length q k x _ _ (by omega) (by omega) (by omega) hlt hq hl hx (by simpa using hcell)).mono ?_
      rintro e w3 ⟨rfl, m2, rfl⟩
      cases htb : x.testBit k
      · go_wp2_with fail
        go_roundw
        case rel => exact ⟨k + 1, by omega, by go_num, by rw [HNB.out htb, HY.out], _, rfl⟩
        case measure => simp [intOf]; omega
      · have e3 := HOR.out htb
        obtain ⟨z, hz⟩ : ∃ z, z = x % 2 ^ (k + 1) := ⟨_, rfl⟩
        rw [← hz] at e3
        have HZ : Hid (z = x % 2 ^ (k + 1)) := hz
        clear hz
        go_wp2_with fail
        go_roundw
        case rel => exact ⟨k + 1, by omega, by go_num, by rw [← HZ.out], _, rfl⟩
        case measure => simp [intOf]; omega
    · have hke : k = 64 := by omega
      subst hke
      rw [all_bits x hx]
      go_wp2_with fail
      go_ret
      exact ⟨rfl, below_drewN HB2.out _⟩
end Go.Proofs.Qxb6613657a.base
