/- zzAppendRecord by its contract. -/
import Derived.Test.Qxb6608879aAppend
import Derived.Laws.BitsAllLaws
namespace Go.Proofs.Qxb6608879a.base
open Go.ChangeShapes Go.WideShapes Go.ChangeAt Go.RowKit
set_option linter.unusedVariables false

/-- The uvarint of a number below 2^21. -/
def U (n : Nat) : List Int :=
  if n < 128 then [(n : Int)] else if n < 16384 then [((n % 128 + 128 : Nat) : Int), ((n / 128 : Nat) : Int)]
  else [((n % 128 + 128 : Nat) : Int), ((n / 128 % 128 + 128 : Nat) : Int), ((n / 16384 : Nat) : Int)]
theorem U_small (n : Nat) (h : n < 128) : U n = [(n : Int)] := by unfold U; rw [if_pos h]
theorem U_two (n : Nat) (h : 128 ≤ n) (h2 : n < 16384) : U n = [((n % 128 + 128 : Nat) : Int), ((n / 128 : Nat) : Int)] := by unfold U; rw [if_neg (by omega), if_pos h2]
theorem U_three (n : Nat) (h2 : 16384 ≤ n) : U n = [((n % 128 + 128 : Nat) : Int), ((n / 128 % 128 + 128 : Nat) : Int), ((n / 16384 : Nat) : Int)] := by unfold U; rw [if_neg (by omega), if_neg (by omega)]
theorem U_step (n : Nat) (h : 128 ≤ n) (h2 : n < 2097152) : U n = ((n % 128 + 128 : Nat) : Int) :: U (n / 128) := by
  by_cases h3 : n < 16384
  · rw [U_two n h h3, U_small (n / 128) (by omega)]
  · rw [U_three n (by omega), U_two (n / 128) (by omega) (by omega), Nat.div_div_eq_div_mul]
theorem U_len (n : Nat) : (U n).length ≤ 3 ∧ 1 ≤ (U n).length := by
  unfold U
  split
  · simp
  · split <;> simp

theorem or128 (m : Nat) (h : m < 2097152) : bits .or .u8 ((m : Int) % 256) 128 = ((m % 128 + 128 : Nat) : Int) := by
  have e : ((m : Int) % 256) = ((m % 256 : Nat) : Int) := by omega
  have e2 : (128 : Int) = ((128 : Nat) : Int) := rfl
  rw [e, e2, u8_or_nat _ _ (by omega) (by omega)]
  congr 1
  have h1 : (m % 256) = (m % 256 / 128) * 128 + m % 128 := by omega
  rcases (show m % 256 / 128 = 0 ∨ m % 256 / 128 = 1 from by omega) with h2 | h2
  · rw [h2] at h1
    rw [show m % 256 = m % 128 from by omega, Nat.or_comm]
    rw [nat_join 7 128 (m % 128) (by decide) (by omega)]; omega
  · rw [h2] at h1
    have h3 : m % 256 = 128 ||| m % 128 := by rw [nat_join 7 128 (m % 128) (by decide) (by omega)]; omega
    rw [h3, Nat.or_comm, ← Nat.or_assoc, Nat.or_self, nat_join 7 128 (m % 128) (by decide) (by omega)]; omega

set_option maxRecDepth 100000 in
set_option maxHeartbeats 400000 in
theorem rec_tail {B : Nat} {w : World} {v src : Value} {xs ys : List Int} (i : Int) (ho : Own B w v xs) (hs : Rd (Value.int .u8) 0 B w src ys) (hB : B ≤ w.heap.size) (hx : xs.length ≤ 16777216) (hl : ys.length ≤ 524288) :
    Calls Try.prog 25 #[v, .bool false, .int .u64 i, src] w fun e w' => ∃ v', e = .returned v' ∧ Own B w' v' (xs ++ U ys.length ++ ys) ∧ Below B w w' := by
  obtain ⟨i0, hi, hz0, hz1, hz2⟩ := info_parts info5
  have hs0 := hs
  obtain ⟨a1, c1, b1, o1, rfl, g1, f1⟩ := hs
  clear g1 f1
  have HS := hs0
  go_enter Try.func25, Try.ntmps25
  go_wp2
  go_loopw [0, 10] (fun d n wr => ∃ m : Nat, ∃ zs : List Int, m ≤ 524288 ∧ n = .int .u64 m ∧ zs.length + (U m).length ≤ 3 ∧ Hid (U ys.length = zs ++ U m) ∧ Own B wr d (xs ++ zs) ∧ Below B w wr) (fun _ n _ => (intOf n).toNat)
  case atStart => exact ⟨ys.length, [], by omega, rfl, by have := (U_len ys.length).1; simpa using this, (by simp : U ys.length = [] ++ U ys.length), by simpa using ho, Below.refl _ _⟩
  case round =>
    obtain ⟨m, zs, hm, rfl, hz3, hU, hown, hbel⟩ := hrel
    have hsz := hbel.size
    have HS := hs0
    by_cases hlt : 128 ≤ m
    · have hor := or128 m (by omega)
      have hst := U_step m hlt (by omega)
      obtain ⟨q, hq⟩ : ∃ q, q = xs ++ zs := ⟨_, rfl⟩
      have HZ : Hid (q = xs ++ zs) := hq
      have hql : q.length + 1 ≤ 140737488355328 := by rw [hq]; simp; omega
      have hz4 : (zs ++ [((m % 128 + 128 : Nat) : Int)]).length + (U (m / 128)).length ≤ 3 := by rw [hst] at hz3; simp at hz3 ⊢; omega
      have H4 : Hid ((zs ++ [((m % 128 + 128 : Nat) : Int)]).length + (U (m / 128)).length ≤ 3) := hz4
      have HU : Hid (U ys.length = (zs ++ [((m % 128 + 128 : Nat) : Int)]) ++ U (m / 128)) := by
        show U ys.length = _
        rw [hU.out, hst]; simp
      rw [← hq] at hown
      clear hq hst hz4 hz3 hU
      generalize ((m % 128 + 128 : Nat) : Int) = z at *
      go_wp2_with (at_builtin; refine wpList_append_own _ rfl _ _ 31 rfl B 5 i0 (.int .u8 0) 1 1 Try.underlying31 hi hz0 hz1 hz2 rfl (by decide) _ _ _ rfl (World.ownsRow.alloc hown _) ⟨wr.heap.size, 0, none⟩ 1 1 [.int .u8 z] rfl rfl ?c1 ?c2 ?c3 ?c4 ?c5 ?_)
      case c1 =>
        intro j u hj
        match j, hj with
        | 0, hj => simp at hj; subst hj; simp [Addr.add]
      case c2 => intro u hu; simp at hu; subst hu; rfl
      case c3 => unfold maxLen; omega
      case c4 => omega
      case c5 => simp; omega
      · intro v' w1 hown' hgrow _
        have R := own_step (by omega) hbel hown hown' hgrow
        clear hown' hgrow hown hor
        go_wp2
        go_roundw
        case rel => exact ⟨m / 128, zs ++ [z], by omega, by go_num, H4.out, HU, by rw [← List.append_assoc, ← HZ.out]; exact R.1, R.2⟩
        case measure => simp [intOf]; omega
    · have hst := U_small m (by omega)
      obtain ⟨q, hq⟩ : ∃ q, q = xs ++ zs := ⟨_, rfl⟩
      have HZ : Hid (q = xs ++ zs) := hq
      have hql : q.length + 1 ≤ 16777216 + 4 := by rw [hq]; rw [hst] at hz3; simp at hz3 ⊢; omega
      have HU : Hid (xs ++ U ys.length = q ++ [(m : Int)]) := by
        show xs ++ U ys.length = _
        rw [hU.out, hst, hq]; simp
      rw [← hq] at hown
      clear hq hst hz3 hU
      go_wp2_with (at_builtin; refine wpList_append_own _ rfl _ _ 31 rfl B 5 i0 (.int .u8 0) 1 1 Try.underlying31 hi hz0 hz1 hz2 rfl (by decide) _ _ _ rfl (World.ownsRow.alloc hown _) ⟨wr.heap.size, 0, none⟩ 1 1 [.int .u8 (m : Int)] rfl rfl ?d1 ?d2 ?d3 ?d4 ?d5 ?_)
      case d1 =>
        intro j u hj
        match j, hj with
        | 0, hj => simp at hj; subst hj; simp [Addr.add]
      case d2 => intro u hu; simp at hu; subst hu; rfl
      case d3 => unfold maxLen; omega
      case d4 => omega
      case d5 => simp; omega
      · intro v' w1 hown' hgrow _
        have R := own_step (by omega) hbel hown hown' hgrow
        clear hown' hgrow hown
        go_wp2_with fail
        refine (append_bytes R.1 (hs0.below R.2) (by have := R.2.size; omega) (by simp; omega)).mono ?_
        rintro e w2 ⟨v2, rfl, ho2, hb2⟩
        go_wp2
        go_ret
        exact ⟨v2, rfl, by rw [HU.out]; exact ho2, R.2.trans hb2⟩

set_option maxRecDepth 100000 in
set_option maxHeartbeats 800000 in
theorem rec_indexed {B : Nat} {w : World} {v src : Value} {xs ys : List Int} (i : Int) (hi0 : 0 ≤ i) (hi1 : i ≤ 18446744073709551615) (ho : Own B w v xs) (hs : Rd (Value.int .u8) 0 B w src ys) (hB : B ≤ w.heap.size) (hx : xs.length ≤ 1048576) (hl : ys.length ≤ 524288) :
    Calls Try.prog 25 #[v, .bool true, .int .u64 i, src] w fun e w' => ∃ v' ix, e = .returned v' ∧ ix.length = 8 ∧ Own B w' v' (xs ++ ix ++ U ys.length ++ ys) ∧ Below B w w' := by
  obtain ⟨i0, hi, hz0, hz1, hz2⟩ := info_parts info5
  have hs0 := hs
  obtain ⟨a1, c1, b1, o1, rfl, g1, f1⟩ := hs
  clear g1 f1
  go_enter Try.func25, Try.ntmps25
  go_wp2
  go_loopw [0, 9] (fun d n wr => ∃ k : Nat, ∃ zs : List Int, k ≤ 8 ∧ n = .int .i64 k ∧ Hid (zs.length = k) ∧ Own B wr d (xs ++ zs) ∧ Below B w wr) (fun _ n _ => 8 - (intOf n).toNat)
  case atStart => exact ⟨0, [], by omega, rfl, rfl, by simpa using ho, Below.refl _ _⟩
  case round =>
    obtain ⟨k, zs0, hk, rfl, hzk, hown, hbel⟩ := hrel
    have hsz := hbel.size
    by_cases hlt : k < 8
    · obtain ⟨q, hq⟩ : ∃ q, q = xs ++ zs0 := ⟨_, rfl⟩
      have HZ : Hid (q = xs ++ zs0) := hq
      have hql : q.length + 1 ≤ 1048576 + 9 := by rw [hq]; simp; have := hzk.out; omega
      rw [← hq] at hown
      clear hq
      generalize hz : i / 2 ^ (8 * k) % 256 = z
      go_wp2_with (at_builtin; refine wpList_append_own _ rfl _ _ 31 rfl B 5 i0 (.int .u8 0) 1 1 Try.underlying31 hi hz0 hz1 hz2 rfl (by decide) _ _ _ rfl (World.ownsRow.alloc hown _) ⟨wr.heap.size, 0, none⟩ 1 1 [.int .u8 z] rfl rfl ?e1 ?e2 ?e3 ?e4 ?e5 ?_)
      case e1 =>
        intro j u hj
        match j, hj with
        | 0, hj => simp at hj; subst hj; simp [Addr.add]
      case e2 => intro u hu; simp at hu; subst hu; rfl
      case e3 => unfold maxLen; omega
      case e4 => omega
      case e5 => simp; omega
      · intro v' w1 hown' hgrow _
        have R := own_step (by omega) hbel hown hown' hgrow
        clear hown' hgrow hown hz
        go_wp2
        go_roundw
        case rel => exact ⟨k + 1, zs0 ++ [z], by omega, by go_num, (by simp; exact hzk.out : (zs0 ++ [z]).length = k + 1), by rw [← List.append_assoc, ← HZ.out]; exact R.1, R.2⟩
        case measure => simp [intOf]; omega
    · have hk8 : k = 8 := by omega
      subst hk8
      obtain ⟨xq, hq⟩ : ∃ q, q = xs ++ zs0 := ⟨_, rfl⟩
      have HZ0 : Hid (xq = xs ++ zs0) := hq
      have hxq : xq.length ≤ 16777216 := by rw [hq]; simp; have := hzk.out; omega
      rw [← hq] at hown
      have hown0 := hown
      have hbel0 := hbel
      clear hq hown hbel
      go_wp2
      go_loopw [0, 10] (fun d n wr => ∃ m : Nat, ∃ zs : List Int, m ≤ 524288 ∧ n = .int .u64 m ∧ zs.length + (U m).length ≤ 3 ∧ Hid (U ys.length = zs ++ U m) ∧ Own B wr d (xq ++ zs) ∧ Below B w wr) (fun _ n _ => (intOf n).toNat)
      case atStart => exact ⟨ys.length, [], by omega, rfl, by have := (U_len ys.length).1; simpa using this, (by simp : U ys.length = [] ++ U ys.length), by simpa using hown0, hbel0⟩
      case round =>
        obtain ⟨m, zs, hm, rfl, hz3, hU, hown, hbel⟩ := hrel
        have hsz := hbel.size
        have HS := hs0
        by_cases hlt : 128 ≤ m
        · have hor := or128 m (by omega)
          have hst := U_step m hlt (by omega)
          obtain ⟨q, hq⟩ : ∃ q, q = xq ++ zs := ⟨_, rfl⟩
          have HZ : Hid (q = xq ++ zs) := hq
          have hql : q.length + 1 ≤ 140737488355328 := by rw [hq]; simp; omega
          have hz4 : (zs ++ [((m % 128 + 128 : Nat) : Int)]).length + (U (m / 128)).length ≤ 3 := by rw [hst] at hz3; simp at hz3 ⊢; omega
          have H4 : Hid ((zs ++ [((m % 128 + 128 : Nat) : Int)]).length + (U (m / 128)).length ≤ 3) := hz4
          have HU : Hid (U ys.length = (zs ++ [((m % 128 + 128 : Nat) : Int)]) ++ U (m / 128)) := by
            show U ys.length = _
            rw [hU.out, hst]; simp
          rw [← hq] at hown
          clear hq hst hz4 hz3 hU
          generalize ((m % 128 + 128 : Nat) : Int) = z at *
          go_wp2_with (at_builtin; refine wpList_append_own _ rfl _ _ 31 rfl B 5 i0 (.int .u8 0) 1 1 Try.underlying31 hi hz0 hz1 hz2 rfl (by decide) _ _ _ rfl (World.ownsRow.alloc hown _) ⟨wr.heap.size, 0, none⟩ 1 1 [.int .u8 z] rfl rfl ?tc1 ?tc2 ?tc3 ?tc4 ?tc5 ?_)
          case tc1 =>
            intro j u hj
            match j, hj with
            | 0, hj => simp at hj; subst hj; simp [Addr.add]
          case tc2 => intro u hu; simp at hu; subst hu; rfl
          case tc3 => unfold maxLen; omega
          case tc4 => omega
          case tc5 => simp; omega
          · intro v' w1 hown' hgrow _
            have R := own_step (by omega) hbel hown hown' hgrow
            clear hown' hgrow hown hor
            go_wp2
            go_roundw
            case rel =>
              (repeat apply Exists.intro)
              exact ⟨⟨m / 128, zs ++ [z], by omega, by go_num, H4.out, HU, by rw [← List.append_assoc, ← HZ.out]; exact R.1, R.2⟩, rfl⟩
            case measure => simp [intOf]; omega
        · have hst := U_small m (by omega)
          obtain ⟨q, hq⟩ : ∃ q, q = xq ++ zs := ⟨_, rfl⟩
          have HZ : Hid (q = xq ++ zs) := hq
          have hql : q.length + 1 ≤ 16777216 + 4 := by rw [hq]; rw [hst] at hz3; simp at hz3 ⊢; omega
          have HU : Hid (xq ++ U ys.length = q ++ [(m : Int)]) := by
            show xq ++ U ys.length = _
            rw [hU.out, hst, hq]; simp
          rw [← hq] at hown
          clear hq hst hz3 hU
          go_wp2_with (at_builtin; refine wpList_append_own _ rfl _ _ 31 rfl B 5 i0 (.int .u8 0) 1 1 Try.underlying31 hi hz0 hz1 hz2 rfl (by decide) _ _ _ rfl (World.ownsRow.alloc hown _) ⟨wr.heap.size, 0, none⟩ 1 1 [.int .u8 (m : Int)] rfl rfl ?td1 ?td2 ?td3 ?td4 ?td5 ?_)
          case td1 =>
            intro j u hj
            match j, hj with
            | 0, hj => simp at hj; subst hj; simp [Addr.add]
          case td2 => intro u hu; simp at hu; subst hu; rfl
          case td3 => unfold maxLen; omega
          case td4 => omega
          case td5 => simp; omega
          · intro v' w1 hown' hgrow _
            have R := own_step (by omega) hbel hown hown' hgrow
            clear hown' hgrow hown
            go_wp2_with fail
            refine (append_bytes R.1 (hs0.below R.2) (by have := R.2.size; omega) (by simp; omega)).mono ?_
            rintro e w2 ⟨v2, rfl, ho2, hb2⟩
            go_wp2
            go_ret
            exact ⟨v2, zs0, rfl, hzk.out, by rw [← HZ0.out, HU.out]; exact ho2, R.2.trans hb2⟩

end Go.Proofs.Qxb6608879a.base
