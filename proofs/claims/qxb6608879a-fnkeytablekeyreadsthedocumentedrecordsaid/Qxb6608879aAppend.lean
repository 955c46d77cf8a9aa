/- zzAppendBytes by its contract: what is owned grows by what is read. -/
import Derived.Test.Qxb6608879aBase
namespace Go.Proofs.Qxb6608879a.base
open Go.ChangeShapes Go.WideShapes Go.ChangeAt Go.RowKit
set_option linter.unusedVariables false

theorem info5 : (Try.prog.info? 5).map (fun i => (i.zero, i.size, i.bytes)) = some (some (.int .u8 0), 1, 1) := by kernel_rfl

/-- The slice v is the call's own (its block lies from B on) and holds the bytes xs. -/
def Own (B : Nat) (w : World) (v : Value) (xs : List Int) : Prop := w.ownsRow B 5 1 v xs.length (xs.map (Value.int .u8))

theorem own_step {B : Nat} {w wr w1 : World} {v v' : Value} {o : Obj} {zs : List Int} {z : Int} (hBs : B ≤ wr.heap.size) (hb : Below B w wr) (hown : Own B wr v zs)
    (hown' : w1.ownsRow B 5 1 v' (zs.length + 1) (zs.map (Value.int .u8) ++ [.int .u8 z])) (hgrow : (wr.alloc o).grownBy w1 v.ownBlock) :
    Own B w1 v' (zs ++ [z]) ∧ Below B w w1 := by
  constructor
  · unfold Own
    simpa using hown'
  · refine (hb.alloc hBs o).grown hgrow (by simp; omega) ?_
    intro k hk
    exact (World.ownsRow.lt hown k hk).1

set_option maxHeartbeats 400000 in
theorem append_bytes {B : Nat} {w : World} {v src : Value} {xs ys : List Int} (ho : Own B w v xs) (hs : Rd (Value.int .u8) 0 B w src ys) (hB : B ≤ w.heap.size) (hl : xs.length + ys.length ≤ 140737488355328) :
    Calls Try.prog 24 #[v, src] w fun e w' => ∃ v', e = .returned v' ∧ Own B w' v' (xs ++ ys) ∧ Below B w w' := by
  obtain ⟨i0, hi, hz0, hz1, hz2⟩ := info_parts info5
  obtain ⟨a1, c1, b1, o1, rfl, g1, f1⟩ := hs
  go_enter Try.func24, Try.ntmps24
  go_wp2
  go_loopw [0, 5] (fun d i wr => ∃ k : Nat, k ≤ ys.length ∧ i = .int .i64 k ∧ Own B wr d (xs ++ ys.take k) ∧ Below B w wr) (fun _ i _ => ys.length - (intOf i).toNat)
  case atStart => exact ⟨0, Nat.zero_le _, rfl, by simpa using ho, Below.refl _ _⟩
  case round =>
    obtain ⟨k, hk, rfl, hown, hbel⟩ := hrel
    have hsz := hbel.size
    by_cases hlt : k < ys.length
    · obtain ⟨rfl, hb1⟩ := g1 (by omega)
      have e1 : wr.cell? ⟨b1, o1 + k, none⟩ = some (.int .u8 (ys.getD k 0)) := (hbel.cell (by exact hb1)).trans (f1 k hlt)
      obtain ⟨zs, hzs⟩ : ∃ zs, zs = xs ++ ys.take k := ⟨_, rfl⟩
      have HZ : Hid (zs = xs ++ ys.take k) := hzs
      have hlen : zs.length = xs.length + k := by rw [hzs]; simp; omega
      have hL : zs.length + 1 ≤ 140737488355328 := by omega
      rw [← hzs] at hown
      have HT : Hid (ys.take (k + 1) = ys.take k ++ [ys.getD k 0]) := by
        show ys.take (k + 1) = ys.take k ++ [ys.getD k 0]
        rw [List.take_succ_eq_append_getElem hlt]; simp [hlt]
      clear f1 g1 hlen hzs
      generalize ys.getD k 0 = z at *
      go_wp2_with (at_builtin; refine wpList_append_own _ rfl _ _ 31 rfl B 5 i0 (.int .u8 0) 1 1 Try.underlying31 hi hz0 hz1 hz2 rfl (by decide) _ _ _ rfl (World.ownsRow.alloc hown _) ⟨wr.heap.size, 0, none⟩ 1 1 [.int .u8 z] rfl rfl ?c1 ?c2 ?c3 ?c4 ?c5 ?_)
      case c1 =>
        intro j u hj
        match j, hj with
        | 0, hj => simp at hj; subst hj; simp [Addr.add]
      case c2 => intro u hu; simp at hu; subst hu; rfl
      case c3 => unfold maxLen; omega
      case c4 => omega
      case c5 => simp; omega
      · intro v' w1 hown' hgrow _
        have R := own_step (by omega) hbel hown hown' hgrow
        clear hown' hgrow hown e1
        go_wp2
        go_roundw
        case rel => exact ⟨k + 1, by omega, by go_num, by rw [HT.out, ← List.append_assoc, ← HZ.out]; exact R.1, R.2⟩
        case measure => simp [intOf]; omega
    · go_wp2
      go_ret
      have : k = ys.length := by omega
      subst this
      rw [List.take_length] at hown
      exact ⟨_, rfl, hown, hbel⟩
end Go.Proofs.Qxb6608879a.base
