import Derived.Test.Qxb6612674aRows
import Derived.Test.Qxb6612674aPlain
import Derived.WalkKit
import Derived.WalkLawsBesides
import Derived.WalkSpells
import Derived.BigQuiet
import Derived.Deep.QuietTactic
import Derived.Maps.OwnSet
import Derived.Maps.OwnOps
namespace Go.Proofs.Qxb6612674a.W
open Go.RowKit Go.Maps Plain

theorem ret_int {k : IntKind} {a b : Int} (h : a = b) : Ending.returned (.int k a) = .returned (.int k b) := by rw [h]

theorem cmp20 (a b : Int) (w : World) : Calls Try.prog 20 #[.int .u64 a, .int .u64 b] w fun e w' => e = .returned (.int .i64 (cmp3 a b)) ∧ w' = w := by
  rcases Int.lt_trichotomy a b with h | h | h
  · have e : cmp3 a b = -1 := by unfold cmp3; rw [if_pos h]
    rw [e]
    clear e
    go_enter Try.func20, Try.ntmps20
    go_wp2
    go_ret
    exact ⟨rfl, rfl⟩
  · subst h
    have e : cmp3 a a = 0 := by unfold cmp3; rw [if_neg (Int.lt_irrefl _), if_neg (Int.lt_irrefl _)]
    rw [e]
    clear e
    go_enter Try.func20, Try.ntmps20
    go_wp2
    go_ret
    exact ⟨rfl, rfl⟩
  · have e : cmp3 a b = 1 := by unfold cmp3; rw [if_neg (by omega), if_pos h]
    rw [e]
    clear e
    have h' : ¬ a < b := by omega
    go_enter Try.func20, Try.ntmps20
    go_wp2
    go_ret
    exact ⟨rfl, rfl⟩

theorem cmp21 (a b : Int) (w : World) : Calls Try.prog 21 #[.int .u64 a, .int .u64 b] w fun e w' => e = .returned (.int .i64 (cmp3 a b)) ∧ w' = w := by
  rcases Int.lt_trichotomy a b with h | h | h
  · have e : cmp3 a b = -1 := by unfold cmp3; rw [if_pos h]
    rw [e]
    clear e
    go_enter Try.func21, Try.ntmps21
    go_wp2
    go_ret
    exact ⟨rfl, rfl⟩
  · subst h
    have e : cmp3 a a = 0 := by unfold cmp3; rw [if_neg (Int.lt_irrefl _), if_neg (Int.lt_irrefl _)]
    rw [e]
    clear e
    go_enter Try.func21, Try.ntmps21
    go_wp2
    go_ret
    exact ⟨rfl, rfl⟩
  · have e : cmp3 a b = 1 := by unfold cmp3; rw [if_neg (by omega), if_pos h]
    rw [e]
    clear e
    have h' : ¬ a < b := by omega
    go_enter Try.func21, Try.ntmps21
    go_wp2
    go_ret
    exact ⟨rfl, rfl⟩

theorem or19 (g cap : Nat) (a b : Int) (w : World) (ha : w.cell? ⟨g, 0, none⟩ = some (.int .i64 a)) (hb : w.cell? ⟨g, 1, none⟩ = some (.int .i64 b)) :
    Calls Try.prog 19 #[.slice (some ⟨g, 0, none⟩) 2 cap] w fun e w' => e = .returned (.int .i64 (or3 a b)) ∧ w' = w := by
  by_cases h : a = 0
  · subst h
    have e : or3 0 b = b := by unfold or3; rw [if_pos rfl]
    rw [e]
    clear e
    by_cases k : b = 0
    · subst k
      go_enter Try.func19, Try.ntmps19
      go_wp2
      refine wp_loop_rounds 3 ?_
      rw [rounds_succ]
      go_wp2
      rw [rounds_succ]
      go_wp2
      rw [rounds_succ]
      go_wp2
      go_ret
      exact ⟨rfl, rfl⟩
    · have k' : (b != 0) = true := by rw [bne_iff_ne]; exact k
      go_enter Try.func19, Try.ntmps19
      go_wp2
      refine wp_loop_rounds 3 ?_
      rw [rounds_succ]
      go_wp2
      rw [rounds_succ]
      go_wp2
      go_ret
      exact ⟨rfl, rfl⟩
  · have e : or3 a b = a := by unfold or3; rw [if_neg h]
    rw [e]
    clear e
    have k' : (a != 0) = true := by rw [bne_iff_ne]; exact h
    go_enter Try.func19, Try.ntmps19
    go_wp2
    refine wp_loop_rounds 3 ?_
    rw [rounds_succ]
    go_wp2
    go_ret
    exact ⟨rfl, rfl⟩
end Go.Proofs.Qxb6612674a.W
