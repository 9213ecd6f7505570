/-
  daysSince1970 (function 14) and ZZDaysSince1970 (function 10): what they compute, for a year above -20000 and at most 1<<20, a month 1..12, a day 1..31.
-/
import Derived.Test.Qxb6603312aRows
import Derived.WalkKit
import Derived.WalkSpells
import Derived.WalkLawsBesides
namespace Go.Proofs.Qxb6603312a
open Go.RowKit

theorem ret_int {k : IntKind} {a b : Int} (h : a = b) : Ending.returned (.int k a) = .returned (.int k b) := by rw [h]

/-- The plain reckoning, counted from 1 March of -20000. -/
def daysM (y m d : Int) : Int :=
  if m ≤ 2 then
    (y + 20000 - 1) / 400 * 146097 + ((y + 20000 - 1) % 400 * 365 + (y + 20000 - 1) % 400 / 4 - (y + 20000 - 1) % 400 / 100 + ((153 * (m + 12 - 3) + 2) / 5 + d - 1)) - 8024318
  else
    (y + 20000) / 400 * 146097 + ((y + 20000) % 400 * 365 + (y + 20000) % 400 / 4 - (y + 20000) % 400 / 100 + ((153 * (m - 3) + 2) / 5 + d - 1)) - 8024318

theorem daysM_bounds (y m d : Int) (hy1 : -20000 < y) (hy2 : y ≤ 1048576) (hm1 : 1 ≤ m) (hm2 : m ≤ 12) (hd1 : 1 ≤ d) (hd2 : d ≤ 31) :
    -9000000 ≤ daysM y m d ∧ daysM y m d ≤ 500000000 := by
  unfold daysM
  split <;> omega

/-- 400 years on: one era on. -/
theorem daysM_era (y m d : Int) : daysM (y + 400) m d = daysM y m d + 146097 := by
  unfold daysM
  split <;> omega

set_option maxHeartbeats 400000 in
theorem days14 (y m d : Int) (w : World) (hy1 : -20000 < y) (hy2 : y ≤ 1048576) (hm1 : 1 ≤ m) (hm2 : m ≤ 12) (hd1 : 1 ≤ d) (hd2 : d ≤ 31) :
    Calls Try.prog 14 #[.int .i64 y, .int .i64 m, .int .i64 d] w fun e w' => e = .returned (.int .i64 (daysM y m d)) ∧ w' = w := by
  by_cases hm : m ≤ 2
  · go_enter Try.func14, Try.ntmps14
    go_wp2
    go_ret
    exact ⟨ret_int (by unfold daysM; rw [if_pos hm]), rfl⟩
  · have hm' : 2 < m := by omega
    go_enter Try.func14, Try.ntmps14
    go_wp2
    go_ret
    exact ⟨ret_int (by unfold daysM; rw [if_neg (by omega)]), rfl⟩

set_option maxHeartbeats 400000 in
theorem days10 (y m d : Int) (w : World) (hy1 : -20000 < y) (hy2 : y ≤ 1048576) (hm1 : 1 ≤ m) (hm2 : m ≤ 12) (hd1 : 1 ≤ d) (hd2 : d ≤ 31) :
    Calls Try.prog 10 #[.int .i64 y, .int .i64 m, .int .i64 d] w fun e w' => e = .returned (.int .i64 (daysM y m d)) ∧ w' = w := by
  go_enter Try.func10, Try.ntmps10
  go_wp2_with (go_at_call 14; refine (days14 _ _ _ _ hy1 hy2 hm1 hm2 hd1 hd2).mono ?_; rintro e w' ⟨rfl, rfl⟩)
  go_ret
  exact ⟨rfl, rfl⟩
end Go.Proofs.Qxb6603312a
