/- zzArena by its contract. -/
import Derived.Test.Qxb6608879aBase
import Derived.Deep.OwnRows
import Derived.Deep.CutRange
namespace Go.Proofs.Qxb6608879a.base
open Go.ChangeShapes Go.WideShapes Go.ChangeAt Go.RowKit
set_option linter.unusedVariables false

theorem info5a : (Try.prog.info? 5).map (fun i => (i.zero, i.size, i.bytes)) = some (some (.int .u8 0), 1, 1) := by kernel_rfl
theorem info31 : (Try.prog.info? 31).map (fun i => (i.zero, i.size, i.bytes)) = some (some (.slice none 0 0), 1, 24) := by kernel_rfl

/-- After k rounds of the first loop: the image's first k bytes are laid. -/
structure Laid (w : World) (N : Nat) (zs : List Int) (k : Nat) (wr : World) : Prop where
  row : wr.rowIs w.heap.size 5 N (fun j => .int .u8 (if j < k then zs.getD j 0 else 0))
  bel : Below w.heap.size w wr
  size : wr.heap.size = w.heap.size + 1

theorem laid_start (w : World) (N : Nat) (zs : List Int) : Laid w N zs 0 (w.alloc (.cells (madeCells #[.int .u8 0] N) 5)) :=
  ⟨(World.rowIs_made w (.int .u8 0) N 5).congr (fun i _ => by simp), (Below.refl _ _).alloc (Nat.le_refl _) _, by simp⟩

theorem laid_step {w wr : World} {N : Nat} {zs : List Int} {k : Nat} (h : Laid w N zs k wr) : Laid w N zs (k + 1) (wr.setCell ⟨w.heap.size, k, none⟩ (.int .u8 (zs.getD k 0))) := by
  refine ⟨(h.row.set k _).congr (fun i _ => ?_), h.bel.setCell (Nat.le_refl _) _, by simpa [World.setCell] using h.size⟩
  by_cases e : i = k
  · subst e; simp
  · rw [if_neg e]
    by_cases e2 : i < k
    · rw [if_pos e2, if_pos (by omega)]
    · rw [if_neg e2, if_neg (by omega)]

/-- After k rounds of the second loop: the first k chunks are cut. -/
structure Cut (w : World) (n N : Nat) (zs : List Int) (k : Nat) (wr : World) : Prop where
  top : wr.rowIs (w.heap.size + 1) 31 n (fun j => if j < k then .slice (some ⟨w.heap.size, j * 65536, none⟩) (N - j * 65536) (N - j * 65536) else .slice none 0 0)
  row : wr.rowIs w.heap.size 5 N (fun j => .int .u8 (zs.getD j 0))
  bel : Below w.heap.size w wr
  size : wr.heap.size = w.heap.size + 2

theorem cut_start {w wr : World} {n N : Nat} {zs : List Int} (h : Laid w N zs zs.length wr) : Cut w n N zs 0 (wr.alloc (.cells (madeCells #[.slice none 0 0] n) 31)) := by
  refine ⟨?_, (h.row.alloc _).congr (fun i _ => ?_), h.bel.alloc (by rw [h.size]; omega) _, by simp [h.size]⟩
  · have := World.rowIs_made wr (.slice none 0 0) n 31
    rw [h.size] at this
    exact this.congr (fun i _ => by simp)
  · by_cases e : i < zs.length
    · rw [if_pos e]
    · rw [if_neg e, List.getD_eq_getElem?_getD, List.getElem?_eq_none (by omega)]; rfl

theorem cut_step {w wr : World} {n N : Nat} {zs : List Int} {k : Nat} (h : Cut w n N zs k wr) :
    Cut w n N zs (k + 1) (wr.setCell ⟨w.heap.size + 1, k, none⟩ (.slice (some ⟨w.heap.size, k * 65536, none⟩) (N - k * 65536) (N - k * 65536))) := by
  refine ⟨(h.top.set k _).congr (fun i _ => ?_), h.row.setOther (by simp) _, h.bel.setCell (by simp) _, by simpa [World.setCell] using h.size⟩
  by_cases e : i = k
  · subst e; simp
  · rw [if_neg e]
    by_cases e2 : i < k
    · rw [if_pos e2, if_pos (by omega)]
    · rw [if_neg e2, if_neg (by omega)]

set_option maxRecDepth 100000 in
set_option maxHeartbeats 800000 in
theorem arena {B : Nat} {w : World} {v : Value} {zs : List Int} (n : Nat) (hs : Rd (Value.int .u8) 0 B w v zs) (hB : B ≤ w.heap.size) (h1 : 1 ≤ zs.length) (hl : zs.length ≤ 4194304)
    (hn1 : zs.length ≤ n * 65536) (hn2 : n * 65536 < zs.length + 65536) :
    Calls Try.prog 27 #[v] w fun e w' => e = .returned (.slice (some ⟨w.heap.size + 1, 0, none⟩) n n) ∧ Cut w n (n * 65536) zs n w' := by
  obtain ⟨a1, c1, b1, o1, rfl, g1, f1⟩ := hs
  obtain ⟨rfl, hb1⟩ := g1 (by omega)
  have hn0 : 1 ≤ n := by omega
  have hn3 : n ≤ 64 := by omega
  obtain ⟨N, hN⟩ : ∃ N, N = n * 65536 := ⟨_, rfl⟩
  have HN : Hid (N = n * 65536) := hN
  have hLN : zs.length ≤ N := by omega
  have hNb : N ≤ 4194304 := by omega
  rw [← hN]
  have hmk : ∀ w, (Instr.makeSlice 31 (.int .i64 ((n : Int) * 65536)) (.int .i64 ((n : Int) * 65536))).run Try.prog w = .ok (.slice (some ⟨w.heap.size, 0, none⟩) N N) (w.alloc (.cells (madeCells #[.int .u8 0] N) 5)) := by
    intro w
    have h := run_make_row' (P := Try.prog) 31 5 (.int .u8 0) 1 Try.underlying31 info5a rfl .i64 .i64 N (by omega) (by omega) w
    rw [show (N : Int) = (n : Int) * 65536 from by omega] at h
    exact h
  have hmk2 := run_make_row' (P := Try.prog) 50 31 (.slice none 0 0) 24 Try.underlying50 info31 rfl .i64 .i64 n (by omega) (by omega)
  go_enter Try.func27, Try.ntmps27
  go_upto_region 2 with (fail)
  rw [show ((zs.length : Int) + 65536 - 1) / 65536 = (n : Int) from by omega]
  clear hn1 hn2 hN
  go_upto_region 4 with (fail)
  go_wp2
  go_loopw [5] (fun i wr => ∃ k : Nat, k ≤ zs.length ∧ i = .int .i64 k ∧ Laid w N zs k wr) (fun i _ => zs.length - (intOf i).toNat)
  case atStart => exact ⟨0, Nat.zero_le _, rfl, laid_start w N zs⟩
  case round =>
    obtain ⟨k, hk, rfl, hlaid⟩ := hrel
    by_cases hlt : k < zs.length
    · have e1 : wr.cell? ⟨b1, o1 + k, none⟩ = some (.int .u8 (zs.getD k 0)) := (hlaid.bel.cell (by show b1 < _; omega)).trans (f1 k hlt)
      have e2 := hlaid.row.cell (i := k) (by omega)
      have e3 := hlaid.row.frozen k
      have R := laid_step hlaid
      clear hlaid f1
      generalize zs.getD k 0 = z at *
      go_wp2
      go_roundw
      case rel => exact ⟨k + 1, by omega, by go_num, R⟩
      case measure => simp [intOf]; omega
    · have hke : k = zs.length := by omega
      subst hke
      have C0 := cut_start (n := n) hlaid
      have hsz := hlaid.size
      clear hlaid f1
      go_wp2
      go_loopw [7] (fun i wr => ∃ k : Nat, k ≤ n ∧ i = .int .i64 k ∧ Cut w n N zs k wr) (fun i _ => n - (intOf i).toNat)
      case atStart => exact ⟨0, Nat.zero_le _, rfl, C0⟩
      case round =>
        obtain ⟨k, hk, rfl, hcut⟩ := hrel
        by_cases hlt : k < n
        · have e2 := hcut.top.cell (i := k) hlt
          have e3 := hcut.top.frozen k
          have R := cut_step hcut
          have hkN : k * 65536 < N := by rw [HN.out]; omega
          clear hcut C0
          go_wp2
          go_roundw
          case rel => exact ⟨k + 1, by omega, by go_num, R⟩
          case measure => simp [intOf]; omega
        · have hke : k = n := by omega
          subst hke
          go_wp2
          go_ret
          exact ⟨rfl, hcut⟩
end Go.Proofs.Qxb6608879a.base
