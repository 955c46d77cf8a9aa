/- The walk of FnGraphStepScriptAppendsTheOtherTargets where the lengths are within the law's bounds. -/
import Derived.Test.Qxb6608879aGraph4
import Derived.Deep.CutRange
namespace Go.Proofs.Qxb6608879a.base
open Go.ChangeShapes Go.WideShapes Go.ChangeAt Go.RowKit
set_option linter.unusedVariables false

set_option maxRecDepth 100000 in
set_option maxHeartbeats 4000000 in
theorem main_law7 (p : Int) (v1 v2 v3 v4 v7 : Value) (es ss : List Int) (bs : List Bool) (ls ts : List Int) (mv : Bool) (f : Int) (w : World)
    (k1 : es.length ≤ 32768) (k2 : ss.length ≤ 32768) (k3 : bs.length ≤ 65536) (k4 : ls.length ≤ 65536) (k7 : ts.length ≤ 32768)
    (r1 : Rd (Value.int .i64) 0 w.heap.size w v1 es) (r2 : Rd (Value.int .i64) 0 w.heap.size w v2 ss) (r3 : Rd Value.bool false w.heap.size w v3 bs) (r4 : Rd (Value.int .u8) 0 w.heap.size w v4 ls) (r7 : Rd (Value.int .i64) 0 w.heap.size w v7 ts) :
    Calls Try.prog 7 #[.int .i64 p, v1, v2, v3, v4, .bool mv, .int .i64 f, v7] w fun e w' => e = .returned (.bool true) ∧ Below w.heap.size w w' := by
  obtain ⟨a1, c1, rfl⟩ : ∃ ao cap, v1 = .slice ao es.length cap := by obtain ⟨ao, cap, _, _, h, _⟩ := r1; exact ⟨ao, cap, h⟩
  obtain ⟨a2, c2, rfl⟩ : ∃ ao cap, v2 = .slice ao ss.length cap := by obtain ⟨ao, cap, _, _, h, _⟩ := r2; exact ⟨ao, cap, h⟩
  obtain ⟨a3, c3, rfl⟩ : ∃ ao cap, v3 = .slice ao bs.length cap := by obtain ⟨ao, cap, _, _, h, _⟩ := r3; exact ⟨ao, cap, h⟩
  obtain ⟨a4, c4, rfl⟩ : ∃ ao cap, v4 = .slice ao ls.length cap := by obtain ⟨ao, cap, _, _, h, _⟩ := r4; exact ⟨ao, cap, h⟩
  obtain ⟨a7, c7, rfl⟩ : ∃ ao cap, v7 = .slice ao ts.length cap := by obtain ⟨ao, cap, _, _, h, _⟩ := r7; exact ⟨ao, cap, h⟩
  go_enter Try.func7, Try.ntmps7
  go_wp2_with fail
  refine (bytes_graph p a1 a2 a3 a4 a7 _ _ _ _ _ c1 c2 c3 c4 c7 mv f _ (by unfold maxLen; omega) (by unfold maxLen; omega) (by unfold maxLen; omega) (by unfold maxLen; omega) (by unfold maxLen; omega)).mono ?_
  rintro e w0 ⟨b, rfl, rfl, hb⟩
  obtain rfl := hb k1 k2 k3 k4 k7
  clear hb
  go_wp2_with fail
  refine (clone_ints r1 (Nat.le_refl _) (by omega)).mono ?_
  rintro e w1 ⟨x1, rfl, o1, b1⟩
  have z1 := b1.size
  go_wp2_with fail
  refine (clone_ints (r2.below b1) z1 (by omega)).mono ?_
  rintro e w2 ⟨x2, rfl, o2, b2⟩
  have z2 := b2.size
  have B2 := b1.trans (b2.mono z1)
  go_wp2_with fail
  refine (clone_bools (r3.below B2) (by omega) (by omega)).mono ?_
  rintro e w3 ⟨x3, rfl, o3, b3⟩
  have z3 := b3.size
  have B3 := B2.trans (b3.mono (by omega))
  go_wp2_with fail
  refine (clone_bytes (r4.below B3) (by omega) (by omega)).mono ?_
  rintro e w4 ⟨x4, rfl, o4, b4⟩
  have z4 := b4.size
  have B4 := B3.trans (b4.mono (by omega))
  go_wp2_with fail
  refine (clone_ints (r7.below B4) (by omega) (by omega)).mono ?_
  rintro e w5 ⟨x7, rfl, o5, b5⟩
  have z5 := b5.size
  have B5 := B4.trans (b5.mono (by omega))
  clear r1 r2 r3 r4 r7 B2 B3 B4
  have g5 := b5
  have g4 := b4.trans (b5.mono z4)
  have g3 := b3.trans (g4.mono z3)
  have g2 := b2.trans (g3.mono z2)
  have s1 := sep_of o1 g2
  have s2 := sep_of o2 g3
  have s3 := sep_of o3 g4
  have s4 := sep_of o4 g5
  have s7 := sep_of o5 (Below.refl _ _)
  clear o1 o2 o3 o4 o5 b1 b2 b3 b4 b5 g2 g3 g4 g5
  go_wp2_with fail
  refine (clone_ints (s1.rd 0) (Nat.le_refl _) (by omega)).mono ?_
  rintro e w6 ⟨y1, rfl, o6, b6⟩
  have z6 := b6.size
  go_wp2_with fail
  refine (clone_ints ((s2.rd 0).below b6) z6 (by omega)).mono ?_
  rintro e w7 ⟨y2, rfl, o7, b7⟩
  have z7 := b7.size
  have D7 := b6.trans (b7.mono z6)
  go_wp2_with fail
  refine (clone_bools ((s3.rd false).below D7) (by omega) (by omega)).mono ?_
  rintro e w8 ⟨y3, rfl, o8, b8⟩
  have z8 := b8.size
  have D8 := D7.trans (b8.mono (by omega))
  go_wp2_with fail
  refine (clone_bytes ((s4.rd 0).below D8) (by omega) (by omega)).mono ?_
  rintro e w9 ⟨y4, rfl, o9, b9⟩
  have z9 := b9.size
  have D9 := D8.trans (b9.mono (by omega))
  obtain ⟨ya1, yc1, rfl⟩ := ownsRow_shape o6
  obtain ⟨ya2, yc2, rfl⟩ := ownsRow_shape o7
  obtain ⟨ya3, yc3, rfl⟩ := ownsRow_shape o8
  obtain ⟨ya4, yc4, rfl⟩ := ownsRow_shape o9
  obtain ⟨C, born⟩ := mk_graph p mv o6 b6 o7 b7 o8 b8 o9 b9
  clear o6 o7 o8 o9 b6 b7 b8 b9
  go_wp2_with fail
  refine (new_graph p _ _ _ _ _ _ _ _ _ _ _ _ mv _).mono ?_
  rintro e w10 ⟨rfl, hw10⟩
  rw [← hw10] at born
  have D10 : Below w5.heap.size w5 w10 := by rw [hw10]; exact D9.alloc (by omega) _
  clear hw10 D7 D8 D9
  have hsz := born.size
  have hlo := born.lo
  have hhi := born.hi
  have env : Env w10 w10.heap.size [w9.heap.size, C] x1 x2 x3 x4 x7 (.slice ya1 es.length yc1) (.slice ya3 bs.length yc3) (.slice ya4 ls.length yc4) es ss bs ls ts :=
    ⟨s1.early D10 (by omega) hlo (by omega) (by omega), s2.early D10 (by omega) hlo (by omega) (by omega), s3.early D10 (by omega) hlo (by omega) (by omega), s4.early D10 (by omega) hlo (by omega) (by omega), s7.early D10 (by omega) hlo (by omega) (by omega),
      (born.se.ext (by omega) (fun k _ _ h => h)).zero, (born.sb.ext (by omega) (fun k _ _ h => h)).zero, (born.sl.ext (by omega) (fun k _ _ h => h)).zero⟩
  have ran0 : Ran w10 w9.heap.size C w10.heap.size p (.slice ya1 es.length yc1) (.slice ya3 bs.length yc3) (.slice ya4 ls.length yc4) ss mv f [] := ⟨_, by simpa [oth_nil] using born.gs w10.heap.size⟩
  have hfin : Below w0.heap.size w0 w10 := B5.trans (D10.mono (by omega))
  clear s1 s2 s3 s4 s7 born D10 B5
  obtain ⟨xa1, xc1, rfl⟩ := env.s1.shape
  obtain ⟨xa2, xc2, rfl⟩ := env.s2.shape
  obtain ⟨xa3, xc3, rfl⟩ := env.s3.shape
  obtain ⟨xa4, xc4, rfl⟩ := env.s4.shape
  obtain ⟨xa7, xc7, rfl⟩ := env.s7.shape
  have hBH : w0.heap.size ≤ w9.heap.size := by omega
  have hBC : w0.heap.size ≤ C := by omega
  have hBN : w0.heap.size ≤ w10.heap.size := by omega
  clear z1 z2 z3 z4 z5 z6 z7 z8 z9 hlo hhi
  generalize w9.heap.size = H at *
  obtain ⟨N, hN⟩ : ∃ N, N = w10.heap.size := ⟨_, rfl⟩
  rw [← hN] at env ran0 hBN
  have hN1 : N ≤ w10.heap.size := by omega
  clear hN hsz
  go_wp2_with fail
  go_loopw [18] (fun i wr => ∃ k : Nat, k ≤ ts.length ∧ i = .int .i64 k ∧ Ran wr H C N p (.slice ya1 es.length yc1) (.slice ya3 bs.length yc3) (.slice ya4 ls.length yc4) ss mv f (ts.take k) ∧ Kept N [H, C] w10 wr) (fun i _ => ts.length - (intOf i).toNat)
  case atStart => exact ⟨0, Nat.zero_le _, rfl, by simpa using ran0, Kept.refl _ _ _⟩
  case round =>
    obtain ⟨k, hk, rfl, hran, hkept⟩ := hrel
    have hsz := hkept.size
    by_cases hlt : k < ts.length
    · obtain ⟨b7, rfl, hc7⟩ := (env.s7.kept hkept (Nat.le_refl _) (fun _ h => h)).at 0 (by omega)
      have e1 := hc7 k hlt
      have HT : Hid (ts.take (k + 1) = ts.take k ++ [ts.getD k 0]) := oth_take f ts k hlt
      have htl : (ts.take k).length ≤ k := by simp; omega
      clear hc7
      generalize ts.getD k 0 = t at *
      go_wp2_with fail
      refine (ran_step hran (by omega) (by omega) t).mono ?_
      rintro e w11 ⟨rfl, hran', hk'⟩
      clear hran e1
      go_wp2_with fail
      go_roundw
      case rel => exact ⟨k + 1, by omega, by go_num, by rw [HT.out]; exact hran', hkept.trans hk'⟩
      case measure => simp [intOf]; omega
    · have hke : k = ts.length := by omega
      subst hke
      rw [List.take_length] at hran
      obtain ⟨vs, hgs⟩ := hran
      have env1 := env.kept hkept (Nat.le_refl _) (fun _ h => h)
      have hbel : Below w0.heap.size w0 wr := hfin.trans (hkept.below hBN (by simp; omega))
      obtain ⟨gl, hgl⟩ : ∃ gl, gl = ss ++ oth f ts := ⟨_, rfl⟩
      obtain ⟨m2, hm2⟩ : ∃ b, b = (mv || !(oth f ts).isEmpty) := ⟨_, rfl⟩
      rw [← hgl, ← hm2] at hgs
      have HG : Hid (gl = ss ++ oth f ts) := hgl
      have HM : Hid (m2 = (mv || !(oth f ts).isEmpty)) := hm2
      have hgl1 : gl.length ≤ ss.length + (oth f ts).length := by rw [hgl]; simp
      have hgl2 : ss.length + (oth f ts).length ≤ gl.length := by rw [hgl]; simp
      have hq := oth_len f ts
      have npp : (p != p) = false := by simp
      clear hgl hm2 ran0 env hkept hsz hfin
      have hown := hgs.own
      obtain ⟨va, vc, rfl⟩ := ownsRow_shape hown
      have T1 : Tl w0 wr N [H, C] _ _ _ _ _ _ _ _ _ es ss bs ls ts gl := ⟨env1, hown, hbel⟩
      clear env1 hown hbel
      go_wp2_with fail
      refine (fields hgs).mono ?_
      rintro e wa ⟨rfl, n0, hn0⟩
      have T2 := T1.of hn0
      clear hn0 T1 hgs
      go_wp2_with fail
      refine (equal_ints (T2.env.e1.rd 0) (T2.env.s1.rd 0) (by omega)).mono ?_
      rintro e wb ⟨rfl, n1, hn1⟩
      have T3 := T2.of hn1
      clear hn1 T2
      go_wp2_with fail
      refine (equal_bools (T3.env.e3.rd false) (T3.env.s3.rd false) (by omega)).mono ?_
      rintro e wc ⟨rfl, n2, hn2⟩
      have T4 := T3.of hn2
      clear hn2 T3
      go_wp2_with fail
      refine (equal_bytes (T4.env.e4.rd 0) (T4.env.s4.rd 0) (by omega)).mono ?_
      rintro e wd ⟨rfl, n3, hn3⟩
      have T5 := T4.of hn3
      clear hn3 T4
      go_wp2_with fail
      go_loop [25, 26] (fun c i => ∃ k : Nat, k ≤ ts.length ∧ i = .int .i64 k ∧ c = .int .i64 ((oth f (ts.take k)).length : Nat)) (fun _ i => ts.length - (intOf i).toNat)
      case atStart => exact ⟨0, Nat.zero_le _, rfl, rfl⟩
      case round =>
        obtain ⟨k, hk, rfl, rfl⟩ := hrel
        have hqk := oth_len f (ts.take k)
        have htl : (ts.take k).length ≤ k := by simp; omega
        by_cases hlt : k < ts.length
        · obtain ⟨b7, rfl, hc7⟩ := T5.env.s7.at 0 (by omega)
          have e1 := hc7 k hlt
          have HT : Hid (ts.take (k + 1) = ts.take k ++ [ts.getD k 0]) := oth_take f ts k hlt
          clear hc7
          generalize ts.getD k 0 = t at *
          by_cases htf : (t == f) = true
          · have htf2 : t = f := by simpa using htf
            have HO : Hid (oth f (ts.take (k + 1)) = oth f (ts.take k)) := by
              show _ = _
              rw [HT.out, htf2, oth_snoc_same]
            have hne : (t != f) = false := by simp [htf2]
            clear htf2
            go_wp2_with fail
            go_round
            case rel => exact ⟨k + 1, by omega, by go_num, by rw [HO.out]⟩
            case measure => simp [intOf]; omega
          · have htf2 : (t == f) = false := by simpa using htf
            have HO : Hid (oth f (ts.take (k + 1)) = oth f (ts.take k) ++ [t]) := by
              show _ = _
              rw [HT.out, oth_snoc_other f _ t htf2]
            have hne : (t != f) = true := by simpa using htf
            clear htf
            go_wp2_with fail
            go_round
            case rel => exact ⟨k + 1, by omega, by go_num, by rw [HO.out]; simp⟩
            case measure => simp [intOf]; omega
        · have hke : k = ts.length := by omega
          subst hke
          rw [List.take_length]
          clear hqk htl
          obtain ⟨q, hqe⟩ : ∃ q, q = (oth f ts).length := ⟨_, rfl⟩
          rw [← hqe] at hgl1 hgl2 hq ⊢
          have HQ : Hid (q = (oth f ts).length) := hqe
          clear hqe
          have hcase : (mv = true ∧ m2 = true) ∨ (mv = false ∧ 0 < q ∧ m2 = true) ∨ (mv = false ∧ q ≤ 0 ∧ m2 = false) := by
            have h1 := HM.out
            have h2 := HQ.out
            cases mv
            · cases ho : oth f ts with
              | nil => rw [ho] at h1 h2; simp at h1 h2; exact .inr (.inr ⟨rfl, by omega, h1⟩)
              | cons a l => rw [ho] at h1 h2; simp at h1 h2; exact .inr (.inl ⟨rfl, by omega, h1⟩)
            · simp at h1; exact .inl ⟨rfl, h1⟩
          clear HM
          have hgg : Hid (∀ i, i < ss.length → gl.getD i 0 = ss.getD i 0) := by
            intro i hi
            rw [HG.out]
            exact getD_left ss _ i hi
          have hgo : Hid (∀ i, gl.getD (ss.length + i) 0 = (oth f ts).getD i 0) := by
            intro i
            rw [HG.out]
            exact getD_right ss _ i
          rcases hcase with ⟨rfl, rfl⟩ | ⟨rfl, hq0, rfl⟩ | ⟨rfl, hq0, rfl⟩
          all_goals
            go_wp2_with fail
            go_loopw [27] (fun i wr => ∃ k : Nat, k ≤ ss.length ∧ i = .int .i64 k ∧ ∃ m, wr = wd.drewN m) (fun i _ => ss.length - (intOf i).toNat)
            case atStart => exact ⟨0, Nat.zero_le _, rfl, 0, rfl⟩
            case round =>
              obtain ⟨k, hk, rfl, m, rfl⟩ := hrel
              by_cases hlt : k < ss.length
              · obtain ⟨bg, rfl, hcg⟩ := ownsRow_at 0 T5.own (by omega)
                obtain ⟨b2, rfl, hc2⟩ := T5.env.s2.at 0 (by omega)
                have e1 := hcg k (by omega)
                have e2 := hc2 k hlt
                rw [hgg.out k hlt] at e1
                clear hcg hc2
                generalize ss.getD k 0 = t at *
                have i1 : (k : Int) < (gl.length : Int) := by omega
                have i2 : (k : Int) < (ss.length : Int) := by omega
                go_wp2_with fail
                go_quiet (fail)
                go_wp2_with fail
                go_roundw
                case rel => exact ⟨k + 1, by omega, by go_num, _, rfl⟩
                case measure => simp [intOf]; omega
              · have hke : k = ss.length := by omega
                subst hke
                go_wp2_with fail
                go_loopw [28, 29] (fun c i wr => ∃ k : Nat, k ≤ ts.length ∧ i = .int .i64 k ∧ c = .int .i64 ((ss.length + (oth f (ts.take k)).length : Nat) : Int) ∧ ∃ m, wr = wd.drewN m) (fun _ i _ => ts.length - (intOf i).toNat)
                case atStart => exact ⟨0, Nat.zero_le _, rfl, rfl, _, rfl⟩
                case round =>
                  obtain ⟨k, hk, rfl, rfl, m, rfl⟩ := hrel
                  have hqk := oth_len f (ts.take k)
                  have htl : (ts.take k).length ≤ k := by simp; omega
                  by_cases hlt : k < ts.length
                  · obtain ⟨b7, rfl, hc7⟩ := T5.env.s7.at 0 (by omega)
                    have e1 := hc7 k hlt
                    have HT : Hid (ts.take (k + 1) = ts.take k ++ [ts.getD k 0]) := oth_take f ts k hlt
                    have HA : Hid ((ts.getD k 0 == f) = false → (oth f (ts.take k)).length < (oth f ts).length ∧ (oth f ts).getD (oth f (ts.take k)).length 0 = ts.getD k 0) := oth_at f ts k hlt
                    clear hc7
                    generalize ts.getD k 0 = t at *
                    by_cases htf : (t == f) = true
                    · have htf2 : t = f := by simpa using htf
                      have HO : Hid (oth f (ts.take (k + 1)) = oth f (ts.take k)) := by
                        show _ = _
                        rw [HT.out, htf2, oth_snoc_same]
                      have hne : (t != f) = false := by simp [htf2]
                      clear htf2
                      go_wp2_with fail
                      go_roundw
                      case rel => exact ⟨k + 1, by omega, by go_num, by rw [HO.out], _, rfl⟩
                      case measure => simp [intOf]; omega
                    · have htf2 : (t == f) = false := by simpa using htf
                      have HO : Hid (oth f (ts.take (k + 1)) = oth f (ts.take k) ++ [t]) := by
                        show _ = _
                        rw [HT.out, oth_snoc_other f _ t htf2]
                      have hne : (t != f) = true := by simpa using htf
                      obtain ⟨hA1, hA2⟩ := HA.out htf2
                      obtain ⟨bg, rfl, hcg⟩ := ownsRow_at 0 T5.own (by have := HQ.out; omega)
                      obtain ⟨j, hj⟩ : ∃ j, j = ss.length + (oth f (ts.take k)).length := ⟨_, rfl⟩
                      have e2 := hcg j (by rw [hj]; have := HQ.out; omega)
                      rw [show gl.getD j 0 = t from by rw [hj, hgo.out]; exact hA2] at e2
                      have HJ : Hid (j = ss.length + (oth f (ts.take k)).length) := hj
                      have i1 : (j : Int) < (gl.length : Int) := by have := HQ.out; omega
                      have i2 : (k : Int) < (ts.length : Int) := by omega
                      have j0 : (0 : Int) ≤ (j : Int) := by omega
                      rw [← hj]
                      clear hcg htf hA1 hA2 hj
                      go_wp2_with fail
                      go_quiet (fail)
                      go_wp2_with fail
                      go_roundw
                      case rel => exact ⟨k + 1, by omega, by go_num, by rw [HO.out, HJ.out]; simp; omega, _, rfl⟩
                      case measure => simp [intOf]; omega
                  · go_wp2_with fail
                    go_ret
                    exact ⟨rfl, below_drewN T5.bel _⟩
end Go.Proofs.Qxb6608879a.base
