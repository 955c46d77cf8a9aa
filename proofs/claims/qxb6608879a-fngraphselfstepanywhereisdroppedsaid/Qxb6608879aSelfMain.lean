/- The walk of FnGraphSelfStepAnywhereIsDropped where the lengths and the place are within the law's bounds. -/
import Derived.Test.Qxb6608879aGraph5
namespace Go.Proofs.Qxb6608879a.base
open Go.ChangeShapes Go.WideShapes Go.ChangeAt Go.RowKit
set_option linter.unusedVariables false

theorem ret_not {q : Nat} (h : ¬ 0 < q) : Ending.returned (.bool (!decide (0 < q))) = .returned (.bool true) := by simp [h]

set_option maxRecDepth 100000 in
set_option maxHeartbeats 6000000 in
theorem main_law8 (p : Int) (v1 v2 v3 v4 v7 : Value) (es ss : List Int) (bs : List Bool) (ls ts : List Int) (mv : Bool) (f g : Int) (w : World)
    (k1 : es.length ≤ 32768) (k2 : ss.length ≤ 32768) (k3 : bs.length ≤ 65536) (k4 : ls.length ≤ 65536) (k7 : ts.length ≤ 32768) (kg : 0 ≤ g) (kg2 : g ≤ (ts.length : Int))
    (r1 : Rd (Value.int .i64) 0 w.heap.size w v1 es) (r2 : Rd (Value.int .i64) 0 w.heap.size w v2 ss) (r3 : Rd Value.bool false w.heap.size w v3 bs) (r4 : Rd (Value.int .u8) 0 w.heap.size w v4 ls) (r7 : Rd (Value.int .i64) 0 w.heap.size w v7 ts) :
    Calls Try.prog 8 #[.int .i64 p, v1, v2, v3, v4, .bool mv, .int .i64 f, v7, .int .i64 g] w fun e w' => e = .returned (.bool true) ∧ Below w.heap.size w w' := by
  obtain ⟨a1, c1, rfl⟩ : ∃ ao cap, v1 = .slice ao es.length cap := by obtain ⟨ao, cap, _, _, h, _⟩ := r1; exact ⟨ao, cap, h⟩
  obtain ⟨a2, c2, rfl⟩ : ∃ ao cap, v2 = .slice ao ss.length cap := by obtain ⟨ao, cap, _, _, h, _⟩ := r2; exact ⟨ao, cap, h⟩
  obtain ⟨a3, c3, rfl⟩ : ∃ ao cap, v3 = .slice ao bs.length cap := by obtain ⟨ao, cap, _, _, h, _⟩ := r3; exact ⟨ao, cap, h⟩
  obtain ⟨a4, c4, rfl⟩ : ∃ ao cap, v4 = .slice ao ls.length cap := by obtain ⟨ao, cap, _, _, h, _⟩ := r4; exact ⟨ao, cap, h⟩
  obtain ⟨a7, c7, rfl⟩ : ∃ ao cap, v7 = .slice ao ts.length cap := by obtain ⟨ao, cap, _, _, h, _⟩ := r7; exact ⟨ao, cap, h⟩
  go_enter Try.func8, Try.ntmps8
  go_wp2_with fail
  refine (bytes_self p a1 a2 a3 a4 a7 _ _ _ _ _ c1 c2 c3 c4 c7 mv f g _ (by unfold maxLen; omega) (by unfold maxLen; omega) (by unfold maxLen; omega) (by unfold maxLen; omega) (by unfold maxLen; omega)).mono ?_
  rintro e w0 ⟨b, rfl, rfl, hb⟩
  obtain rfl := hb k1 k2 k3 k4 k7
  clear hb
  go_wp2_with fail
  refine (clone_ints r1 (Nat.le_refl _) (by omega)).mono ?_
  rintro e w1 ⟨x1, rfl, o1, b1⟩
  have z1 := b1.size
  go_wp2_with fail
  refine (clone_ints (r2.below b1) z1 (by omega)).mono ?_
  rintro e w2 ⟨x2, rfl, o2, b2⟩
  have z2 := b2.size
  have B2 := b1.trans (b2.mono z1)
  go_wp2_with fail
  refine (clone_bools (r3.below B2) (by omega) (by omega)).mono ?_
  rintro e w3 ⟨x3, rfl, o3, b3⟩
  have z3 := b3.size
  have B3 := B2.trans (b3.mono (by omega))
  go_wp2_with fail
  refine (clone_bytes (r4.below B3) (by omega) (by omega)).mono ?_
  rintro e w4 ⟨x4, rfl, o4, b4⟩
  have z4 := b4.size
  have B4 := B3.trans (b4.mono (by omega))
  go_wp2_with fail
  refine (clone_ints (r7.below B4) (by omega) (by omega)).mono ?_
  rintro e w5 ⟨x7, rfl, o5, b5⟩
  have z5 := b5.size
  have B5 := B4.trans (b5.mono (by omega))
  clear r1 r2 r3 r4 r7 B2 B3 B4
  have g5 := b5
  have g4 := b4.trans (b5.mono z4)
  have g3 := b3.trans (g4.mono z3)
  have g2 := b2.trans (g3.mono z2)
  have s1 := sep_of o1 g2
  have s2 := sep_of o2 g3
  have s3 := sep_of o3 g4
  have s4 := sep_of o4 g5
  have s7 := sep_of o5 (Below.refl _ _)
  clear o1 o2 o3 o4 o5 b1 b2 b3 b4 b5 g2 g3 g4 g5
  go_wp2_with fail
  refine (clone_ints (s1.rd 0) (Nat.le_refl _) (by omega)).mono ?_
  rintro e w6 ⟨y1, rfl, o6, b6⟩
  have z6 := b6.size
  go_wp2_with fail
  refine (clone_ints ((s2.rd 0).below b6) z6 (by omega)).mono ?_
  rintro e w7 ⟨y2, rfl, o7, b7⟩
  have z7 := b7.size
  have D7 := b6.trans (b7.mono z6)
  go_wp2_with fail
  refine (clone_bools ((s3.rd false).below D7) (by omega) (by omega)).mono ?_
  rintro e w8 ⟨y3, rfl, o8, b8⟩
  have z8 := b8.size
  have D8 := D7.trans (b8.mono (by omega))
  go_wp2_with fail
  refine (clone_bytes ((s4.rd 0).below D8) (by omega) (by omega)).mono ?_
  rintro e w9 ⟨y4, rfl, o9, b9⟩
  have z9 := b9.size
  have D9 := D8.trans (b9.mono (by omega))
  obtain ⟨ya1, yc1, rfl⟩ := ownsRow_shape o6
  obtain ⟨ya2, yc2, rfl⟩ := ownsRow_shape o7
  obtain ⟨ya3, yc3, rfl⟩ := ownsRow_shape o8
  obtain ⟨ya4, yc4, rfl⟩ := ownsRow_shape o9
  obtain ⟨Ca, bornA⟩ := mk_graph p mv o6 b6 o7 b7 o8 b8 o9 b9
  clear o6 o7 o8 o9 b6 b7 b8 b9
  go_wp2_with fail
  refine (new_graph p _ _ _ _ _ _ _ _ _ _ _ _ mv _).mono ?_
  rintro e wA ⟨rfl, hwA⟩
  rw [← hwA] at bornA
  have DA : Below w5.heap.size w5 wA := by rw [hwA]; exact D9.alloc (by omega) _
  clear hwA D7 D8 D9
  have zA := bornA.size
  have t1 := s1.below (DA.mono (by omega))
  have t2 := s2.below (DA.mono (by omega))
  have t3 := s3.below (DA.mono (by omega))
  have t4 := s4.below (DA.mono (by omega))
  clear s1 s2 s3 s4
  go_wp2_with fail
  refine (clone_ints (t1.rd 0) (Nat.le_refl _) (by omega)).mono ?_
  rintro e w11 ⟨q1, rfl, o6, b6⟩
  have z11 := b6.size
  go_wp2_with fail
  refine (clone_ints ((t2.rd 0).below b6) z11 (by omega)).mono ?_
  rintro e w12 ⟨q2, rfl, o7, b7⟩
  have z12 := b7.size
  have D7 := b6.trans (b7.mono z11)
  go_wp2_with fail
  refine (clone_bools ((t3.rd false).below D7) (by omega) (by omega)).mono ?_
  rintro e w13 ⟨q3, rfl, o8, b8⟩
  have z13 := b8.size
  have D8 := D7.trans (b8.mono (by omega))
  go_wp2_with fail
  refine (clone_bytes ((t4.rd 0).below D8) (by omega) (by omega)).mono ?_
  rintro e w14 ⟨q4, rfl, o9, b9⟩
  have z14 := b9.size
  have D9 := D8.trans (b9.mono (by omega))
  obtain ⟨yb1, yd1, rfl⟩ := ownsRow_shape o6
  obtain ⟨yb2, yd2, rfl⟩ := ownsRow_shape o7
  obtain ⟨yb3, yd3, rfl⟩ := ownsRow_shape o8
  obtain ⟨yb4, yd4, rfl⟩ := ownsRow_shape o9
  obtain ⟨Cb, bornB⟩ := mk_graph p mv o6 b6 o7 b7 o8 b8 o9 b9
  clear o6 o7 o8 o9 b6 b7 b8 b9
  go_wp2_with fail
  refine (new_graph p _ _ _ _ _ _ _ _ _ _ _ _ mv _).mono ?_
  rintro e wB ⟨rfl, hwB⟩
  rw [← hwB] at bornB
  have DB : Below wA.heap.size wA wB := by rw [hwB]; exact D9.alloc (by omega) _
  clear hwB D7 D8 D9
  have zB := bornB.size
  have env := env8 s7 (by omega) (DA.trans (DB.mono (by omega))) bornA bornB DB
  have hfin : Below w0.heap.size w0 wB := B5.trans ((DA.trans (DB.mono (by omega))).mono (by omega))
  obtain ⟨xa2, xc2, rfl⟩ := t2.shape
  obtain ⟨xa7, xc7, rfl⟩ := s7.shape
  clear t1 t2 t3 t4 s7 DA B5
  have gsA0 := fun N => (bornA.gs N).below DB
  have gsB0 := bornB.gs
  have q1 : w0.heap.size ≤ Ca := by have := bornA.lo; omega
  have q2 := bornA.hi
  have q3 : w9.heap.size < wA.heap.size := by omega
  have q4 := bornB.lo
  have q5 := bornB.hi
  clear bornA bornB DB z1 z2 z3 z4 z5 z6 z7 z8 z9 z11 z12 z13 z14 zA
  generalize w9.heap.size = Ha at *
  generalize w14.heap.size = Hb at *
  generalize wA.heap.size = sA at *
  obtain ⟨NB, hNB⟩ : ∃ N, N = wB.heap.size := ⟨_, rfl⟩
  rw [← hNB] at env zB
  have hN1 : NB ≤ wB.heap.size := by omega
  have q6 : Hb < NB := by omega
  have ran0 : Ran wB Ha Ca NB p (.slice ya1 es.length yc1) (.slice ya3 bs.length yc3) (.slice ya4 ls.length yc4) ss mv f [] := ⟨_, by simpa [oth_nil] using gsA0 NB⟩
  clear hNB zB gsA0
  go_wp2_with fail
  go_loopw [21] (fun i wr => ∃ k : Nat, k ≤ ts.length ∧ i = .int .i64 k ∧ Ran wr Ha Ca NB p (.slice ya1 es.length yc1) (.slice ya3 bs.length yc3) (.slice ya4 ls.length yc4) ss mv f (ts.take k) ∧ Kept NB [Ha, Ca] wB wr) (fun i _ => ts.length - (intOf i).toNat)
  case atStart => exact ⟨0, Nat.zero_le _, rfl, by simpa using ran0, Kept.refl _ _ _⟩
  case round =>
    obtain ⟨k, hk, rfl, hran, hkept⟩ := hrel
    have hsz := hkept.size
    by_cases hlt : k < ts.length
    · obtain ⟨b7, rfl, hc7⟩ := (env.s7.kept hkept (Nat.le_refl _) (fun _ h => by simp at h ⊢; omega)).at 0 (by omega)
      have e1 := hc7 k hlt
      have HT : Hid (ts.take (k + 1) = ts.take k ++ [ts.getD k 0]) := oth_take f ts k hlt
      have htl : (ts.take k).length ≤ k := by simp; omega
      clear hc7
      generalize ts.getD k 0 = t at *
      go_wp2_with fail
      refine (ran_step hran (by omega) (by omega) t).mono ?_
      rintro e w11 ⟨rfl, hran', hk'⟩
      clear hran e1
      go_wp2_with fail
      go_roundw
      case rel => exact ⟨k + 1, by omega, by go_num, by rw [HT.out]; exact hran', hkept.trans hk'⟩
      case measure => simp [intOf]; omega
    · have hke : k = ts.length := by omega
      subst hke
      rw [List.take_length] at hran
      obtain ⟨vsA, gsA⟩ := hran
      have env1 := env.kept hkept (Nat.le_refl _) (fun _ h => by simp at h ⊢; omega)
      have gsB1 : ∀ N, GS wr Hb Cb N p (.slice yb1 es.length yd1) (.slice yb3 bs.length yd3) (.slice yb4 ls.length yd4) (.slice yb2 ss.length yd2) ss mv := by
        intro N
        refine (gsB0 N).kept hkept q6 (by simp; omega) (fun k e => ?_)
        have hkC := (gsB0 (k + 1)).at_ k e
        simp
        omega
      have hbel : Below w0.heap.size w0 wr := hfin.trans (hkept.below (by omega) (by simp; omega))
      clear ran0 env gsB0 hfin hlt hk
      generalize wr = wl at *
      obtain ⟨N2, hN2⟩ : ∃ N, N = wl.heap.size := ⟨_, rfl⟩
      have hN3 : N2 ≤ wl.heap.size := by omega
      have q7 : NB ≤ N2 := by omega
      have ltA : ∀ k, vsA.ownBlock = some k → k < N2 ∧ k ∉ [Hb, Cb] := by
        intro k e
        have h1 := gsA.lt_own k e
        have h2 := gsA.at_ k e
        simp
        omega
      have LTA : Hid (∀ k, vsA.ownBlock = some k → k < N2 ∧ k ∉ [Hb, Cb]) := ltA
      have ran1 : Ran wl Hb Cb N2 p (.slice yb1 es.length yd1) (.slice yb3 bs.length yd3) (.slice yb4 ls.length yd4) ss mv f [] := ⟨_, by simpa [oth_nil] using gsB1 N2⟩
      clear hkept hsz hN2 ltA gsB1
      go_wp2_with fail
      go_loopw [22] (fun i wr => ∃ k : Nat, k ≤ ts.length + 1 ∧ i = .int .i64 k ∧ Ran wr Hb Cb N2 p (.slice yb1 es.length yd1) (.slice yb3 bs.length yd3) (.slice yb4 ls.length yd4) ss mv f (ts.take k) ∧ Kept N2 [Hb, Cb] wl wr) (fun i _ => ts.length + 1 - (intOf i).toNat)
      case atStart => exact ⟨0, Nat.zero_le _, rfl, by simpa using ran1, Kept.refl _ _ _⟩
      case round =>
        obtain ⟨k, hk, rfl, hran, hkept⟩ := hrel
        have hsz := hkept.size
        have htl : (ts.take k).length ≤ ts.length := by simp; omega
        by_cases hle : k ≤ ts.length
        · by_cases hlt : k < ts.length
          · obtain ⟨b7, rfl, hc7⟩ := (env1.s7.kept hkept q7 (fun _ h => by simp at h ⊢; omega)).at 0 (by omega)
            have e1 := hc7 k hlt
            have HT : Hid (ts.take (k + 1) = ts.take k ++ [ts.getD k 0]) := oth_take f ts k hlt
            clear hc7
            generalize ts.getD k 0 = t at *
            by_cases hat : ((k : Int) == g) = true
            · go_wp2_with fail
              refine (zzstep_same Hb f _).mono ?_
              rintro e w11 ⟨rfl, rfl⟩
              go_wp2_with fail
              refine (ran_step hran (by omega) (by omega) t).mono ?_
              rintro e w12 ⟨rfl, hran', hk'⟩
              clear hran e1
              go_wp2_with fail
              go_roundw
              case rel => exact ⟨k + 1, by omega, by go_num, by rw [HT.out]; exact hran', hkept.trans hk'⟩
              case measure => simp [intOf]; omega
            · have hat2 : ((k : Int) == g) = false := by simpa using hat
              clear hat
              go_wp2_with fail
              refine (ran_step hran (by omega) (by omega) t).mono ?_
              rintro e w12 ⟨rfl, hran', hk'⟩
              clear hran e1
              go_wp2_with fail
              go_roundw
              case rel => exact ⟨k + 1, by omega, by go_num, by rw [HT.out]; exact hran', hkept.trans hk'⟩
              case measure => simp [intOf]; omega
          · have HT : Hid (ts.take (k + 1) = ts.take k) := by
              show ts.take (k + 1) = ts.take k
              rw [List.take_of_length_le (by omega), List.take_of_length_le (by omega)]
            by_cases hat : ((k : Int) == g) = true
            · go_wp2_with fail
              refine (zzstep_same Hb f _).mono ?_
              rintro e w11 ⟨rfl, rfl⟩
              go_wp2_with fail
              go_roundw
              case rel => exact ⟨k + 1, by omega, by go_num, by rw [HT.out]; exact hran, hkept⟩
              case measure => simp [intOf]; omega
            · have hat2 : ((k : Int) == g) = false := by simpa using hat
              clear hat
              go_wp2_with fail
              go_roundw
              case rel => exact ⟨k + 1, by omega, by go_num, by rw [HT.out]; exact hran, hkept⟩
              case measure => simp [intOf]; omega
        · rw [List.take_of_length_le (by omega)] at hran
          obtain ⟨vsB, gsB⟩ := hran
          have gsA2 := gsA.kept hkept (by omega) (by simp; omega) LTA.out
          have env2 := env1.kept hkept q7 (fun _ h => by simp at h ⊢; omega)
          have hbel2 : Below w0.heap.size w0 wr := hbel.trans (hkept.below (by omega) (by simp; omega))
          clear gsA env1 hbel hkept hsz ran1 LTA
          obtain ⟨gl, hgl⟩ : ∃ gl, gl = ss ++ oth f ts := ⟨_, rfl⟩
          obtain ⟨m2, hm2⟩ : ∃ b, b = (mv || !(oth f ts).isEmpty) := ⟨_, rfl⟩
          rw [← hgl, ← hm2] at gsA2 gsB
          have HM : Hid (m2 = (mv || !(oth f ts).isEmpty)) := hm2
          have hgl1 : gl.length ≤ ss.length + (oth f ts).length := by rw [hgl]; simp
          have hgl2 : ss.length + (oth f ts).length ≤ gl.length := by rw [hgl]; simp
          have hq := oth_len f ts
          have npp : (p != p) = false := by simp
          have nmm : (!(m2 == m2)) = false := by simp
          clear hgl hm2 htl
          have ownA := gsA2.own
          have ownB := gsB.own
          obtain ⟨va, vc, rfl⟩ := ownsRow_shape ownA
          obtain ⟨vb, vd, rfl⟩ := ownsRow_shape ownB
          have T1 : Tl8 w0 wr NB [Ha, Ca, Hb, Cb] _ _ _ _ _ _ _ _ _ es bs ls ts gl := ⟨env2, ownA, ownB, hbel2⟩
          clear env2 ownA ownB hbel2
          go_wp2_with fail
          refine (fields gsA2).mono ?_
          rintro e wa ⟨rfl, n0, hn0⟩
          have T2 := T1.of hn0
          have gsB2 := gsB.of hn0
          clear hn0 T1 gsA2 gsB
          go_wp2_with fail
          refine (fields gsB2).mono ?_
          rintro e wa2 ⟨rfl, n0, hn0⟩
          have T3 := T2.of hn0
          clear hn0 T2 gsB2
          go_wp2_with fail
          refine (equal_ints (T3.env.a1.rd 0) (T3.env.b1.rd 0) (by omega)).mono ?_
          rintro e wb ⟨rfl, n1, hn1⟩
          have T4 := T3.of hn1
          clear hn1 T3
          go_wp2_with fail
          refine (equal_ints (ownsRow_rd 0 T4.owna) (ownsRow_rd 0 T4.ownb) (by omega)).mono ?_
          rintro e wc ⟨rfl, n1, hn1⟩
          have T5 := T4.of hn1
          clear hn1 T4
          go_wp2_with fail
          refine (equal_bools (T5.env.a3.rd false) (T5.env.b3.rd false) (by omega)).mono ?_
          rintro e wd ⟨rfl, n2, hn2⟩
          have T6 := T5.of hn2
          clear hn2 T5
          go_wp2_with fail
          refine (equal_bytes (T6.env.a4.rd 0) (T6.env.b4.rd 0) (by omega)).mono ?_
          rintro e we ⟨rfl, n3, hn3⟩
          have T7 := T6.of hn3
          clear hn3 T6
          go_wp2_with fail
          go_loop [35, 36] (fun c i => ∃ k : Nat, k ≤ ts.length ∧ i = .int .i64 k ∧ c = .int .i64 ((oth f (ts.take k)).length : Nat)) (fun _ i => ts.length - (intOf i).toNat)
          case atStart => exact ⟨0, Nat.zero_le _, rfl, rfl⟩
          case round =>
            obtain ⟨k, hk, rfl, rfl⟩ := hrel
            have hqk := oth_len f (ts.take k)
            have htl : (ts.take k).length ≤ k := by simp; omega
            by_cases hlt : k < ts.length
            · obtain ⟨b7, rfl, hc7⟩ := T7.env.s7.at 0 (by omega)
              have e1 := hc7 k hlt
              have HT : Hid (ts.take (k + 1) = ts.take k ++ [ts.getD k 0]) := oth_take f ts k hlt
              clear hc7
              generalize ts.getD k 0 = t at *
              by_cases htf : (t == f) = true
              · have htf2 : t = f := by simpa using htf
                have HO : Hid (oth f (ts.take (k + 1)) = oth f (ts.take k)) := by
                  show _ = _
                  rw [HT.out, htf2, oth_snoc_same]
                have hne : (t != f) = false := by simp [htf2]
                clear htf2
                go_wp2_with fail
                go_round
                case rel => exact ⟨k + 1, by omega, by go_num, by rw [HO.out]⟩
                case measure => simp [intOf]; omega
              · have htf2 : (t == f) = false := by simpa using htf
                have HO : Hid (oth f (ts.take (k + 1)) = oth f (ts.take k) ++ [t]) := by
                  show _ = _
                  rw [HT.out, oth_snoc_other f _ t htf2]
                have hne : (t != f) = true := by simpa using htf
                clear htf
                go_wp2_with fail
                go_round
                case rel => exact ⟨k + 1, by omega, by go_num, by rw [HO.out]; simp⟩
                case measure => simp [intOf]; omega
            · have hke : k = ts.length := by omega
              subst hke
              rw [List.take_length]
              clear hqk htl
              obtain ⟨q, hqe⟩ : ∃ q, q = (oth f ts).length := ⟨_, rfl⟩
              rw [← hqe] at hgl1 hgl2 hq ⊢
              have hcase : (mv = true ∧ m2 = true) ∨ (mv = false ∧ 0 < q ∧ m2 = true) ∨ (mv = false ∧ q ≤ 0 ∧ m2 = false) := by
                have h1 := HM.out
                cases mv
                · cases ho : oth f ts with
                  | nil => rw [ho] at h1 hqe; simp at h1 hqe; exact .inr (.inr ⟨rfl, by omega, h1⟩)
                  | cons a l => rw [ho] at h1 hqe; simp at h1 hqe; exact .inr (.inl ⟨rfl, by omega, h1⟩)
                · simp at h1; exact .inl ⟨rfl, h1⟩
              clear HM hqe nmm
              rcases hcase with ⟨rfl, rfl⟩ | ⟨rfl, hq0, rfl⟩ | ⟨rfl, hq0, rfl⟩
              all_goals
                go_wp2_with fail
                go_ret
                first | exact ⟨rfl, T7.bel⟩ | exact ⟨ret_not (by omega), T7.bel⟩
end Go.Proofs.Qxb6608879a.base
