/- What 'make' and 'copy' leave; plain laws on bits. -/
import Derived.Test.Qxb6613657aBit
import Derived.Deep.OwnRows
import Derived.Laws.CopyOwn
import Derived.Lib.SliceRun
import Derived.Laws.Cover3
namespace Go.Proofs.Qxb6613657a.base
open Go.ChangeShapes Go.WideShapes Go.ChangeAt Go.RowKit
set_option linter.unusedVariables false

theorem info36 : (Try.prog.info? 36).map (fun i => (i.zero, i.size, i.bytes)) = some (some (.int .u64 0), 1, 8) := by kernel_rfl
theorem size36 : (Try.prog.info? 36).map (·.size) = some 1 := by kernel_rfl

theorem made (n : Nat) : madeCells #[Value.int .u64 0] n = (List.replicate n (Value.int .u64 0)).toArray := by
  have := toList_madeCells_one (.int .u64 0) n
  rw [← this]

theorem copied {w2 : World} {g n : Nat} {xs : List Int} (hn : n = xs.length) (h : w2.heap[g]? = some (.cells (splice (List.replicate n (Value.int .u64 0)) 0 (xs.map (Value.int .u64))).toArray 36 (0, 0))) :
    ∀ i, i < n → w2.cell? ⟨g, i, none⟩ = some (.int .u64 (xs.getD i 0)) := by
  intro i hi
  subst hn
  have e : splice (List.replicate xs.length (Value.int .u64 0)) 0 (xs.map (Value.int .u64)) = xs.map (Value.int .u64) := by simp [splice]
  rw [e] at h
  simp [World.cell?, h, hi]

/-- The bits below k + 1: those below k, and bit k. -/
theorem mod_succ (x k : Nat) : x % 2 ^ (k + 1) = x % 2 ^ k + (if x.testBit k then 2 ^ k else 0) := by
  rw [Nat.mod_pow_succ, Nat.testBit_eq_decide_div_mod_eq]
  rcases Nat.mod_two_eq_zero_or_one (x / 2 ^ k) with h | h <;> simp [h]

theorem or_bit (x k : Nat) (hk : k < 64) (hb : x.testBit k = true) : bits .or .u64 ((x % 2 ^ k : Nat) : Int) (IntKind.u64.wrap ((2 : Int) ^ k)) = ((x % 2 ^ (k + 1) : Nat) : Int) := by
  have h1 := pow_lt k hk
  have h2 : x % 2 ^ k < 2 ^ k := Nat.mod_lt _ (Nat.two_pow_pos k)
  rw [wrap_pow k hk, u64_or_nat _ _ (by omega) h1, Nat.or_comm, nat_join k (2 ^ k) (x % 2 ^ k) (Nat.mod_self _) h2, mod_succ, hb, if_pos rfl, Nat.add_comm]

theorem no_bit (x k : Nat) (hb : x.testBit k = false) : x % 2 ^ (k + 1) = x % 2 ^ k := by
  rw [mod_succ, hb]; simp

theorem all_bits (x : Nat) (hx : x < 18446744073709551616) : x % 2 ^ 64 = x := Nat.mod_eq_of_lt hx

theorem div_succ (x k : Nat) : x / 2 ^ (k + 1) = x / 2 ^ k / 2 := by rw [Nat.pow_succ, Nat.div_div_eq_div_mul]

theorem bytes_row (a : Option Addr) (l c : Nat) (i : Int) (w : World) (h : l ≤ maxLen) :
    Calls Try.prog 19 #[.slice a l c, .int .i64 i] w fun e w' => ∃ b, e = .returned (.bool b) ∧ w' = w ∧ (l ≤ 65536 → b = true) := by
  unfold maxLen at h
  go_enter Try.func19, Try.ntmps19
  go_wp2
  all_goals go_ret
  all_goals first | exact ⟨true, rfl, rfl, fun _ => rfl⟩ | exact ⟨false, rfl, rfl, fun _ => by omega⟩

theorem bytes_row2 (a : Option Addr) (l c : Nat) (i : Int) (w : World) (h : l ≤ maxLen) :
    Calls Try.prog 21 #[.slice a l c, .int .i64 i] w fun e w' => ∃ b, e = .returned (.bool b) ∧ w' = w ∧ (l ≤ 65536 → b = true) := by
  unfold maxLen at h
  go_enter Try.func21, Try.ntmps21
  go_wp2
  all_goals go_ret
  all_goals first | exact ⟨true, rfl, rfl, fun _ => rfl⟩ | exact ⟨false, rfl, rfl, fun _ => by omega⟩
end Go.Proofs.Qxb6613657a.base
