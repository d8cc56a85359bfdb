import Derived.Test.Qxb6612705aDoorRows
import Derived.WalkKit
import Derived.WalkLawsBesides
import Derived.WalkSpells
namespace Go.Proofs.Qxb6612705aDoor.Names
open Go.RowKit

/-- The two names as they lie in the table. -/
def hec : ByteArray := ⟨#[104, 101, 99]⟩
def hc : ByteArray := ⟨#[104, 99]⟩

theorem out (d e : Int) (h : d < 0 ∨ 1 < d ∨ e < 0 ∨ 1 < e) (w : World) :
    Calls Tryd.prog 3 #[.int .i64 d, .int .i64 e] w fun r w' => r = .returned (.bool true) ∧ w' = w := by
  by_cases h1 : d < 0
  · go_enter Tryd.func3, Tryd.ntmps3
    go_wp2
    go_ret
    exact ⟨rfl, rfl⟩
  · by_cases h2 : 1 < d
    · go_enter Tryd.func3, Tryd.ntmps3
      go_wp2
      go_ret
      exact ⟨rfl, rfl⟩
    · by_cases h3 : e < 0
      · go_enter Tryd.func3, Tryd.ntmps3
        go_wp2
        go_ret
        exact ⟨rfl, rfl⟩
      · have h4 : 1 < e := by omega
        clear h
        go_enter Tryd.func3, Tryd.ntmps3
        go_wp2
        go_ret
        exact ⟨rfl, rfl⟩

theorem name0 (w : World) (c0 : w.cell? ⟨0, 0, none⟩ = some (.string hec)) : Calls Tryd.prog 4 #[.int .i64 0] w fun r w' => r = .returned (.string hec) ∧ w' = w := by
  go_enter Tryd.func4, Tryd.ntmps4
  go_wp2
  go_ret
  exact ⟨rfl, rfl⟩
theorem name1 (w : World) (c1 : w.cell? ⟨0, 1, none⟩ = some (.string hc)) : Calls Tryd.prog 4 #[.int .i64 1] w fun r w' => r = .returned (.string hc) ∧ w' = w := by
  go_enter Tryd.func4, Tryd.ntmps4
  go_wp2
  go_ret
  exact ⟨rfl, rfl⟩

theorem law00 (w : World) (c0 : w.cell? ⟨0, 0, none⟩ = some (.string hec)) : Calls Tryd.prog 3 #[.int .i64 0, .int .i64 0] w fun r w' => r = .returned (.bool true) ∧ w' = w := by
  have h0 := name0 w c0
  have h1 := name0 w c0
  clear c0
  go_enter Tryd.func3, Tryd.ntmps3
  go_wp2_with fail
  refine h0.mono ?_
  rintro r w1 ⟨rfl, hw⟩
  subst hw
  go_wp2_with fail
  refine h1.mono ?_
  rintro r w2 ⟨rfl, hw⟩
  subst hw
  clear h0 h1
  unfold hec
  go_wp2_with fail
  refine wp_loop_rounds 4 ?_
  rw [rounds_succ]
  go_wp2
  rw [rounds_succ]
  go_wp2
  rw [rounds_succ]
  go_wp2
  rw [rounds_succ]
  go_wp2
  go_ret
  exact ⟨rfl, rfl⟩

theorem law01 (w : World) (c0 : w.cell? ⟨0, 0, none⟩ = some (.string hec)) (c1 : w.cell? ⟨0, 1, none⟩ = some (.string hc)) : Calls Tryd.prog 3 #[.int .i64 0, .int .i64 1] w fun r w' => r = .returned (.bool true) ∧ w' = w := by
  have h0 := name0 w c0
  have h1 := name1 w c1
  clear c0 c1
  go_enter Tryd.func3, Tryd.ntmps3
  go_wp2_with fail
  refine h0.mono ?_
  rintro r w1 ⟨rfl, hw⟩
  subst hw
  go_wp2_with fail
  refine h1.mono ?_
  rintro r w2 ⟨rfl, hw⟩
  subst hw
  clear h0 h1
  unfold hec hc
  go_wp2_with fail
  refine wp_loop_rounds 4 ?_
  rw [rounds_succ]
  go_wp2
  rw [rounds_succ]
  go_wp2
  rw [rounds_succ]
  go_wp2
  rw [rounds_succ]
  go_wp2
  go_ret
  exact ⟨rfl, rfl⟩

theorem law10 (w : World) (c0 : w.cell? ⟨0, 0, none⟩ = some (.string hec)) (c1 : w.cell? ⟨0, 1, none⟩ = some (.string hc)) : Calls Tryd.prog 3 #[.int .i64 1, .int .i64 0] w fun r w' => r = .returned (.bool true) ∧ w' = w := by
  have h0 := name1 w c1
  have h1 := name0 w c0
  clear c0 c1
  go_enter Tryd.func3, Tryd.ntmps3
  go_wp2_with fail
  refine h0.mono ?_
  rintro r w1 ⟨rfl, hw⟩
  subst hw
  go_wp2_with fail
  refine h1.mono ?_
  rintro r w2 ⟨rfl, hw⟩
  subst hw
  clear h0 h1
  unfold hec hc
  go_wp2_with fail
  refine wp_loop_rounds 3 ?_
  rw [rounds_succ]
  go_wp2
  rw [rounds_succ]
  go_wp2
  rw [rounds_succ]
  go_wp2
  go_ret
  exact ⟨rfl, rfl⟩

theorem law11 (w : World) (c1 : w.cell? ⟨0, 1, none⟩ = some (.string hc)) : Calls Tryd.prog 3 #[.int .i64 1, .int .i64 1] w fun r w' => r = .returned (.bool true) ∧ w' = w := by
  have h0 := name1 w c1
  have h1 := name1 w c1
  clear c1
  go_enter Tryd.func3, Tryd.ntmps3
  go_wp2_with fail
  refine h0.mono ?_
  rintro r w1 ⟨rfl, hw⟩
  subst hw
  go_wp2_with fail
  refine h1.mono ?_
  rintro r w2 ⟨rfl, hw⟩
  subst hw
  clear h0 h1
  unfold hc
  go_wp2_with fail
  refine wp_loop_rounds 3 ?_
  rw [rounds_succ]
  go_wp2
  rw [rounds_succ]
  go_wp2
  rw [rounds_succ]
  go_wp2
  go_ret
  exact ⟨rfl, rfl⟩

/-- The law at every pair of numbers. -/
theorem law (d e : Int) (w : World) (c0 : w.cell? ⟨0, 0, none⟩ = some (.string hec)) (c1 : w.cell? ⟨0, 1, none⟩ = some (.string hc)) :
    Calls Tryd.prog 3 #[.int .i64 d, .int .i64 e] w fun r w' => r = .returned (.bool true) ∧ w' = w := by
  by_cases h : d < 0 ∨ 1 < d ∨ e < 0 ∨ 1 < e
  · exact out d e h w
  · rcases (show (d = 0 ∨ d = 1) from by omega) with rfl | rfl
    · rcases (show (e = 0 ∨ e = 1) from by omega) with rfl | rfl
      · exact law00 w c0
      · exact law01 w c0 c1
    · rcases (show (e = 0 ∨ e = 1) from by omega) with rfl | rfl
      · exact law10 w c0 c1
      · exact law11 w c1
end Go.Proofs.Qxb6612705aDoor.Names
