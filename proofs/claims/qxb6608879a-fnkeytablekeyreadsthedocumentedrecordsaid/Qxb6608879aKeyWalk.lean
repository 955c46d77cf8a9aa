/- The walk of FnKeyTableKeyReadsTheDocumentedRecord. -/
import Derived.Test.Qxb6608879aKeyLaw
namespace Go.Proofs.Qxb6608879a.base
open Go.ChangeShapes Go.WideShapes Go.ChangeAt Go.RowKit
set_option linter.unusedVariables false

theorem small_law (a0 : Bool) (a1 : Int) (a2 : Option Addr) (len2 cap2 : Nat) (a3 : Option Addr) (len3 cap3 : Nat) (w : World)
    (xs ys : List Int) (e2 : len2 = xs.length) (e3 : len3 = ys.length) (m2 : len2 ≤ maxLen) (m3 : len3 ≤ maxLen) (hbig : ¬ (len2 ≤ 524288 ∧ len3 ≤ 524288)) :
    Calls Try.prog 9 #[.bool a0, .int .u64 a1, .slice a2 len2 cap2, .slice a3 len3 cap3] w fun e w' => e = .returned (.bool true) ∧ Below w.heap.size w w' := by
  clear e2 e3
  unfold maxLen at m2 m3
  go_enter Try.func9, Try.ntmps9
  go_wp2_with fail
  refine (bytes_key a0 a1 a2 len2 cap2 a3 len3 cap3 _ (by unfold maxLen; omega) (by unfold maxLen; omega)).mono ?_
  rintro e w1 ⟨b, rfl, rfl, _⟩
  cases b
  · go_wp2
    go_ret
    exact ⟨rfl, Below.refl _ _⟩
  · by_cases k2 : len2 ≤ 524288
    · have k3 : ¬ len3 ≤ 524288 := fun h => hbig ⟨k2, h⟩
      go_wp2
      go_ret
      exact ⟨rfl, Below.refl _ _⟩
    · go_wp2
      go_ret
      exact ⟨rfl, Below.refl _ _⟩

/-- The record's place in the arena: what 'zzArena' and 'ZZnewKeyTable' have laid is what 'key' asks. -/
theorem at_of {w2 w3 w4 : World} {n p : Nat} {img : List Int} {ix : Bool} (hcut : Cut w2 n (n * 65536) img n w3) (hb : Below w3.heap.size w3 w4)
    (ci : w4.cell? ⟨w3.heap.size, 1, none⟩ = some (.bool ix)) (ct : w4.cell? ⟨w3.heap.size, 4, none⟩ = some (.slice (some ⟨w2.heap.size + 1, 0, none⟩) n n)) (hp : p < n * 65536) (hn : n ≤ 64) :
    At w4 w3.heap.size w2.heap.size (w2.heap.size + 1) n p (p / 65536) (p % 65536) (p / 65536 * 65536) (n * 65536 - p / 65536 * 65536) ix := by
  refine ⟨by omega, by omega, by omega, by omega, by omega, by omega, ct, ?_, ci⟩
  have hs := hcut.size
  rw [hb.cell (by show w2.heap.size + 1 < _; omega), hcut.top.cell (by omega)]
  rw [if_pos (by omega)]

/-- ZZkeyTableKey is key. -/
theorem zzkey (T : Addr) (r : Int) (w : World) (Q : Ending → World → Prop) (h : Hid (Calls Try.prog 32 #[.pointer (some T), .int .u64 r] w Q)) (hQ : ∀ e w', Q e w' → ∃ got, e = .returned got) :
    Calls Try.prog 28 #[.pointer (some T), .int .u64 r] w Q := by
  have HQ : Hid (∀ e w', Q e w' → ∃ got, e = .returned got) := hQ
  clear hQ
  go_enter Try.func28, Try.ntmps28
  go_wp2_with fail
  refine (show Calls Try.prog 32 #[.pointer (some T), .int .u64 r] w Q from h).mono ?_
  intro e w' hq
  obtain ⟨got, rfl⟩ := HQ.out e w' hq
  have H : Hid (Q (.returned got) w') := hq
  clear hq
  go_wp2
  exact H.out

/-- What stands behind the two appends: 'zzArena', 'ZZnewKeyTable', 'key', 'zzEqualBytes': as one statement on the key that 'key' hands back. -/
theorem key_laid {w2 w3 w4 : World} {n p d : Nat} {pre ys : List Int} {ix : Bool} (hd : d = if ix then 8 else 0) (hpre : pre.length = p + d) (hk : ys.length ≤ 524288)
    (hcut : Cut w2 n (n * 65536) (pre ++ (U ys.length ++ ys)) n w3) (hb : Below w3.heap.size w3 w4)
    (ci : w4.cell? ⟨w3.heap.size, 1, none⟩ = some (.bool ix)) (ct : w4.cell? ⟨w3.heap.size, 4, none⟩ = some (.slice (some ⟨w2.heap.size + 1, 0, none⟩) n n))
    (hn1 : (pre ++ (U ys.length ++ ys)).length ≤ n * 65536) (hn : n ≤ 64) :
    Calls Try.prog 28 #[.pointer (some ⟨w3.heap.size, 0, none⟩), .int .u64 ((p : Int) + 1)] w4 fun e w' => ∃ got, e = .returned got ∧ Rd (Value.int .u8) 0 w4.heap.size w4 got ys ∧ w' = w4 := by
  have hU := (U_len ys.length).2
  have hlen : (pre ++ (U ys.length ++ ys)).length = p + d + (U ys.length).length + ys.length := by simp; omega
  have hs := hcut.size
  have hat := at_of (p := p) hcut hb ci ct (by omega) hn
  have hkey := key_any hat d p (n * 65536 - p) (by omega) (by omega) hd pre ys (by omega) hk (by omega) (fun j hj => by
    rw [hb.cell (by show w2.heap.size < _; omega), hcut.row.cell (by omega)])
  have hs4 := hb.size
  refine zzkey _ _ _ _ (hkey.mono ?_) ?_
  · rintro e w' ⟨got, rfl, hrd, rfl⟩
    exact ⟨got, rfl, hrd.mono (by omega), rfl⟩
  · rintro e w' ⟨got, rfl, _⟩
    exact ⟨got, rfl⟩

/-- zzAppendRecord, whether the table keeps indices or not. -/
theorem rec_any {B : Nat} {w : World} {v src : Value} {xs ys : List Int} (ix : Bool) (i : Int) (hi0 : 0 ≤ i) (hi1 : i ≤ 18446744073709551615) (ho : Own B w v xs) (hs : Rd (Value.int .u8) 0 B w src ys) (hB : B ≤ w.heap.size) (hx : xs.length ≤ 524288) (hl : ys.length ≤ 524288) :
    Calls Try.prog 25 #[v, .bool ix, .int .u64 i, src] w fun e w' => ∃ v' pre, e = .returned v' ∧ pre.length = xs.length + (if ix then 8 else 0) ∧ Own B w' v' (pre ++ (U ys.length ++ ys)) ∧ Below B w w' := by
  cases ix
  · refine (rec_tail i ho hs hB (by omega) hl).mono ?_
    rintro e w' ⟨v', rfl, h1, h2⟩
    exact ⟨v', xs, rfl, by simp, by rw [← List.append_assoc]; exact h1, h2⟩
  · refine (rec_indexed i hi0 hi1 ho hs hB (by omega) hl).mono ?_
    rintro e w' ⟨v', q, rfl, h0, h1, h2⟩
    exact ⟨v', xs ++ q, rfl, by simp [h0], by rw [← List.append_assoc]; exact h1, h2⟩

set_option maxRecDepth 100000 in
set_option maxHeartbeats 1600000 in
theorem main_law (a0 : Bool) (a1 : Int) (a2 : Option Addr) (len2 cap2 : Nat) (a3 : Option Addr) (len3 cap3 : Nat) (w : World) (l1 : 0 ≤ a1) (u1 : a1 ≤ 18446744073709551615)
    (xs ys : List Int) (e2 : len2 = xs.length) (e3 : len3 = ys.length) (k2 : len2 ≤ 524288) (k3 : len3 ≤ 524288)
    (r2 : Rd (Value.int .u8) 0 w.heap.size w (.slice a2 len2 cap2) xs) (r3 : Rd (Value.int .u8) 0 w.heap.size w (.slice a3 len3 cap3) ys) :
    Calls Try.prog 9 #[.bool a0, .int .u64 a1, .slice a2 len2 cap2, .slice a3 len3 cap3] w fun e w' => e = .returned (.bool true) ∧ Below w.heap.size w w' := by
  have E2 : Hid (len2 = xs.length) := e2
  have E3 : Hid (len3 = ys.length) := e3
  have hU := U_len ys.length
  have b2 : xs.length ≤ 524288 := by omega
  have b3 : ys.length ≤ 524288 := by omega
  clear e2 e3
  go_enter Try.func9, Try.ntmps9
  go_wp2_with fail
  refine (bytes_key a0 a1 a2 len2 cap2 a3 len3 cap3 _ (by unfold maxLen; omega) (by unfold maxLen; omega)).mono ?_
  rintro e w0 ⟨b, rfl, rfl, hb⟩
  obtain rfl := hb k2 k3
  clear hb
  go_wp2_with fail
  refine (append_bytes (B := w0.heap.size) (xs := []) (World.ownsRow_nil _ _ _ _) r2 (Nat.le_refl _) (by simp; omega)).mono ?_
  rintro e w1 ⟨v1, rfl, ho1, hb1⟩
  obtain ⟨ao1, cp1, rfl⟩ := own_shape ho1
  rw [List.nil_append] at ho1 ⊢
  go_wp2_with fail
  refine (rec_any a0 a1 l1 u1 ho1 (r3.below hb1) hb1.size (by omega) (by omega)).mono ?_
  rintro e w2 ⟨v2, pre, rfl, hpre, ho2, hb2⟩
  obtain ⟨ao2, cp2, rfl⟩ := own_shape ho2
  obtain ⟨n, hn1, hn2⟩ : ∃ n, (pre ++ (U ys.length ++ ys)).length ≤ n * 65536 ∧ n * 65536 < (pre ++ (U ys.length ++ ys)).length + 65536 := ⟨((pre ++ (U ys.length ++ ys)).length + 65535) / 65536, by omega, by omega⟩
  have hlen : (pre ++ (U ys.length ++ ys)).length = xs.length + (if a0 then 8 else 0) + (U ys.length).length + ys.length := by simp [hpre]; omega
  have hd8 : (if a0 then 8 else 0) ≤ 8 := by split <;> omega
  have hl1 : 1 ≤ (pre ++ (U ys.length ++ ys)).length := by omega
  have hl2 : (pre ++ (U ys.length ++ ys)).length ≤ 1048587 := by omega
  have HP : Hid (pre.length = xs.length + (if a0 then 8 else 0)) := hpre
  have r4 := own_rd ho2
  clear hlen hpre hd8
  generalize himg : pre ++ (U ys.length ++ ys) = img at *
  have HI : Hid (pre ++ (U ys.length ++ ys) = img) := himg
  clear himg
  go_wp2_with fail
  refine (arena n r4 (Nat.le_refl _) hl1 (by omega) hn1 hn2).mono ?_
  rintro e w3 ⟨rfl, hcut⟩
  go_wp2_with fail
  refine (new_table a0 _ _ _ _ _).mono ?_
  rintro e w4 ⟨rfl, hb4, ci, ct, hs4⟩
  go_wp2_with fail
  refine (key_laid (p := xs.length) (pre := pre) (ys := ys) (n := n) (ix := a0) rfl HP.out (by omega) (by rw [HI.out]; exact hcut) hb4 ci ct (by rw [HI.out]; exact hn1) (by omega)).mono ?_
  rintro e w5 ⟨got, rfl, hrd, rfl⟩
  have hw3 := hcut.bel
  have hs3 := hcut.size
  have hz2 := hb2.size
  have hz1 := hb1.size
  have hall : Below w0.heap.size w0 w5 := ((hb1.trans hb2).trans (hw3.mono (by omega))).trans (hb4.mono (by omega))
  have r5 := r3.below hall
  clear hcut hb4 ci ct hn1 hn2 ho1 ho2 r4 hb1 hb2 hw3
  go_wp2_with fail
  refine (equal_bytes hrd r5 (by omega)).mono ?_
  rintro e w6 ⟨rfl, m, rfl⟩
  go_wp2
  go_ret
  exact ⟨rfl, below_drewN hall m⟩

theorem law (a0 : Bool) (a1 : Int) (a2 : Option Addr) (len2 cap2 : Nat) (a3 : Option Addr) (len3 cap3 : Nat) (w : World) (l1 : 0 ≤ a1) (u1 : a1 ≤ 18446744073709551615)
    (xs ys : List Int) (e2 : len2 = xs.length) (e3 : len3 = ys.length) (m2 : len2 ≤ maxLen) (m3 : len3 ≤ maxLen)
    (r2 : Rd (Value.int .u8) 0 w.heap.size w (.slice a2 len2 cap2) xs) (r3 : Rd (Value.int .u8) 0 w.heap.size w (.slice a3 len3 cap3) ys) :
    Calls Try.prog 9 #[.bool a0, .int .u64 a1, .slice a2 len2 cap2, .slice a3 len3 cap3] w fun e w' => e = .returned (.bool true) ∧ Below w.heap.size w w' := by
  by_cases h : len2 ≤ 524288 ∧ len3 ≤ 524288
  · exact main_law a0 a1 a2 len2 cap2 a3 len3 cap3 w l1 u1 xs ys e2 e3 h.1 h.2 r2 r3
  · exact small_law a0 a1 a2 len2 cap2 a3 len3 cap3 w xs ys e2 e3 m2 m3 h
end Go.Proofs.Qxb6608879a.base
