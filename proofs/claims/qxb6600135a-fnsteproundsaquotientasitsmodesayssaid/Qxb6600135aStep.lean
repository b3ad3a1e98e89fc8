/-
  Contracts of rounding.abs (10), Mode.step (9) inside ZZstep (6): shared by both laws of the seat.
-/
import Derived.Test.Qxb6600135aRows
import Derived.WalkKit
namespace Go.Proofs.Qxb6600135a
open Go.RowKit
set_option linter.unusedVariables false

/-- what 'step' answers: no Go in sight -/
def stp (m s r d : Int) : Int :=
  if r = 0 then 0 else if m = 1 then 0 else if m = 0 ∧ 2 * r < d ∧ -2 * r < d then 0 else if s < 0 then -1 else 1

theorem abs_neg (c : Int) (w : World) (h1 : -9223372036854775807 ≤ c) (h2 : c < 0) :
    Calls Try.prog 10 #[.int .i64 c] w fun e w' => e = .returned (.int .i64 (-c)) ∧ w' = w := by
  go_enter Try.func10, Try.ntmps10
  go_wp2
  go_ret
  exact ⟨rfl, rfl⟩

theorem abs_pos (c : Int) (w : World) (h2 : 0 ≤ c) :
    Calls Try.prog 10 #[.int .i64 c] w fun e w' => e = .returned (.int .i64 c) ∧ w' = w := by
  go_enter Try.func10, Try.ntmps10
  go_wp2
  go_ret
  exact ⟨rfl, rfl⟩

theorem step_r0 (m s d : Int) (w : World) :
    Calls Try.prog 6 #[.int .i64 m, .int .i64 s, .int .i64 0, .int .i64 d] w fun e w' => e = .returned (.int .i64 0) ∧ w' = w := by
  go_enter Try.func6, Try.ntmps6
  go_wp2
  go_ret
  exact ⟨rfl, rfl⟩

theorem step_down (s r d : Int) (w : World) (hr : (r == 0) = false) :
    Calls Try.prog 6 #[.int .i64 1, .int .i64 s, .int .i64 r, .int .i64 d] w fun e w' => e = .returned (.int .i64 0) ∧ w' = w := by
  go_enter Try.func6, Try.ntmps6
  go_wp2
  go_ret
  exact ⟨rfl, rfl⟩

theorem step_up (s r d : Int) (w : World) (hr : (r == 0) = false) :
    Calls Try.prog 6 #[.int .i64 2, .int .i64 s, .int .i64 r, .int .i64 d] w fun e w' => e = .returned (.int .i64 (if s < 0 then -1 else 1)) ∧ w' = w := by
  by_cases hs : s < 0
  all_goals
    go_enter Try.func6, Try.ntmps6
    go_wp2
    go_ret
    exact ⟨rfl, rfl⟩

theorem step_half (s r d : Int) (w : World) (hr : (r == 0) = false) (h1 : -d < r) (h2 : r < d) (h3 : d ≤ 9223372036854775807) :
    Calls Try.prog 6 #[.int .i64 0, .int .i64 s, .int .i64 r, .int .i64 d] w fun e w' => e = .returned (.int .i64 (if 2 * r < d ∧ -2 * r < d then 0 else if s < 0 then -1 else 1)) ∧ w' = w := by
  by_cases hn : r < 0
  · by_cases hh : -r < d - -r
    · go_enter Try.func6, Try.ntmps6
      go_wp2
      go_ret
      exact ⟨rfl, rfl⟩
    · by_cases hs : s < 0
      all_goals
        go_enter Try.func6, Try.ntmps6
        go_wp2
        go_ret
        exact ⟨rfl, rfl⟩
  · by_cases hh : r < d - r
    · go_enter Try.func6, Try.ntmps6
      go_wp2
      go_ret
      exact ⟨rfl, rfl⟩
    · by_cases hs : s < 0
      all_goals
        go_enter Try.func6, Try.ntmps6
        go_wp2
        go_ret
        exact ⟨rfl, rfl⟩

/-- ZZstep at each of the three modes -/
theorem step_any (m s r d : Int) (w : World) (hm : m = 0 ∨ m = 1 ∨ m = 2) (h1 : -d < r) (h2 : r < d) (h3 : d ≤ 9223372036854775807) :
    Calls Try.prog 6 #[.int .i64 m, .int .i64 s, .int .i64 r, .int .i64 d] w fun e w' => e = .returned (.int .i64 (stp m s r d)) ∧ w' = w := by
  by_cases hr : r = 0
  · subst hr
    rw [show stp m s 0 d = 0 from by simp [stp]]
    exact step_r0 m s d w
  · have hr' : (r == 0) = false := by simpa using hr
    rcases hm with rfl | rfl | rfl
    · rw [show stp 0 s r d = (if 2 * r < d ∧ -2 * r < d then 0 else if s < 0 then -1 else 1) from by simp [stp, hr]]
      exact step_half s r d w hr' h1 h2 h3
    · rw [show stp 1 s r d = 0 from by simp [stp]]
      exact step_down s r d w hr'
    · rw [show stp 2 s r d = (if s < 0 then -1 else 1) from by simp [stp, hr]]
      exact step_up s r d w hr'

end Go.Proofs.Qxb6600135a
