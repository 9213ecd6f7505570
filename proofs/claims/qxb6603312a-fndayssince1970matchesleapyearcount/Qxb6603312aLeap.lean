/-
  floorDiv (20), leapYearsThrough (15), daysBeforeMonth (16), isLeapYear (17), modelDaysSince1970 (11): what they compute; and the plain law: the model's count is daysM's.
-/
import Derived.Test.Qxb6603312aDays
namespace Go.Proofs.Qxb6603312a
open Go.RowKit

/-! ### Plain -/
theorem tdiv_neg {a b : Int} (ha : a < 0) : a.tdiv b = -((-a) / b) := by
  have h := Int.neg_tdiv (a := -a) (b := b)
  rw [Int.neg_neg, Int.tdiv_eq_ediv_of_nonneg (a := -a) (by omega)] at h
  exact h
theorem tmod_neg {a b : Int} (ha : a < 0) : a.tmod b = -((-a) % b) := by
  have h := Int.neg_tmod (-a) b
  rw [Int.neg_neg, Int.tmod_eq_emod_of_nonneg (a := -a) (by omega)] at h
  exact h
theorem tmod_zero (y k : Int) (hk : k = 4 ∨ k = 100 ∨ k = 400) : y.tmod k = 0 ↔ y % k = 0 := by
  by_cases h : 0 ≤ y
  · rw [Int.tmod_eq_emod_of_nonneg h]
  · rw [tmod_neg (by omega)]
    rcases hk with rfl | rfl | rfl <;> omega
def leapT (n : Int) : Int := n / 4 - n / 100 + n / 400
def dbm (m : Int) : Int :=
  if m = 2 then 31 else if m = 3 then 59 else if m = 4 then 90 else if m = 5 then 120 else if m = 6 then 151 else if m = 7 then 181 else if m = 8 then 212
  else if m = 9 then 243 else if m = 10 then 273 else if m = 11 then 304 else if m = 12 then 334 else 0
def leapB (y : Int) : Bool := (y.tmod 4 == 0) && (y.tmod 100 != 0 || y.tmod 400 == 0)
def modelM (y m d : Int) : Int :=
  365 * (y - 1970) + leapT (y - 1) - 477 + dbm m + (if 2 < m ∧ leapB y = true then 1 else 0) + d - 1

theorem dbm_bounds (m : Int) : 0 ≤ dbm m ∧ dbm m ≤ 334 := by unfold dbm; repeat (first | omega | split)
theorem leapT_bounds (n : Int) (h1 : -20001 < n) (h2 : n ≤ 1048576) : -6000 ≤ leapT n ∧ leapT n ≤ 300000 := by unfold leapT; omega

theorem model_days (y m d : Int) (hm1 : 1 ≤ m) (hm2 : m ≤ 12) : modelM y m d = daysM y m d := by
  have hl : leapB y = true ↔ (y % 4 = 0 ∧ (y % 100 ≠ 0 ∨ y % 400 = 0)) := by simp [leapB, tmod_zero]
  rcases (show m = 1 ∨ m = 2 ∨ m = 3 ∨ m = 4 ∨ m = 5 ∨ m = 6 ∨ m = 7 ∨ m = 8 ∨ m = 9 ∨ m = 10 ∨ m = 11 ∨ m = 12 by omega) with rfl | rfl | rfl | rfl | rfl | rfl | rfl | rfl | rfl | rfl | rfl | rfl
  all_goals
    simp only [modelM, dbm, daysM, leapT, hl]
    simp
    try split
    all_goals omega

theorem floor_even {a b : Int} (ha : a < 0) (hb : b = 4 ∨ b = 100 ∨ b = 400) (h : a.tmod b = 0) : a.tdiv b = a / b := by
  rw [tdiv_neg ha]; rw [tmod_neg ha] at h
  rcases hb with rfl | rfl | rfl <;> omega
theorem floor_odd {a b : Int} (ha : a < 0) (hb : b = 4 ∨ b = 100 ∨ b = 400) (h : ¬ a.tmod b = 0) : a.tdiv b - 1 = a / b := by
  rw [tdiv_neg ha]; rw [tmod_neg ha] at h
  rcases hb with rfl | rfl | rfl <;> omega
theorem tdiv_bounds {a b : Int} (ha : a < 0) (ha1 : -20001 < a) (hb : b = 4 ∨ b = 100 ∨ b = 400) : -20001 < a.tdiv b ∧ a.tdiv b ≤ 0 := by
  rw [tdiv_neg ha]
  rcases hb with rfl | rfl | rfl <;> omega

/-! ### Walks -/
set_option maxHeartbeats 400000 in
theorem floor20 (a b : Int) (w : World) (ha1 : -20001 < a) (ha2 : a ≤ 1048576) (hb : b = 4 ∨ b = 100 ∨ b = 400) :
    Calls Try.prog 20 #[.int .i64 a, .int .i64 b] w fun e w' => e = .returned (.int .i64 (a / b)) ∧ w' = w := by
  have hb1 : 4 ≤ b := by omega
  have hb2 : b ≤ 400 := by omega
  have HB : Hid (b = 4 ∨ b = 100 ∨ b = 400) := hb
  clear hb
  by_cases h0 : 0 ≤ a
  · go_enter Try.func20, Try.ntmps20
    go_wp2
    all_goals (go_ret; exact ⟨rfl, rfl⟩)
  · have h0' : a < 0 := by omega
    obtain ⟨hq1, hq2⟩ := tdiv_bounds h0' ha1 HB.out
    go_enter Try.func20, Try.ntmps20
    go_wp2
    · go_ret
      exact ⟨ret_int (floor_even h0' HB.out (by assumption)), rfl⟩
    · go_ret
      exact ⟨ret_int (floor_odd h0' HB.out (by assumption)), rfl⟩

set_option maxHeartbeats 400000 in
theorem leap15 (n : Int) (w : World) (h1 : -20001 < n) (h2 : n ≤ 1048576) :
    Calls Try.prog 15 #[.int .i64 n] w fun e w' => e = .returned (.int .i64 (leapT n)) ∧ w' = w := by
  go_enter Try.func15, Try.ntmps15
  go_wp2_with fail
  refine (floor20 _ _ _ h1 h2 (by omega)).mono ?_
  rintro e w' ⟨rfl, rfl⟩
  go_wp2_with fail
  refine (floor20 _ _ _ h1 h2 (by omega)).mono ?_
  rintro e w' ⟨rfl, rfl⟩
  go_wp2_with fail
  refine (floor20 _ _ _ h1 h2 (by omega)).mono ?_
  rintro e w' ⟨rfl, rfl⟩
  go_wp2_with fail
  go_ret
  exact ⟨rfl, rfl⟩

set_option maxHeartbeats 400000 in
theorem dbm16 (m : Int) (w : World) (hm1 : 1 ≤ m) (hm2 : m ≤ 12) :
    Calls Try.prog 16 #[.int .i64 m] w fun e w' => e = .returned (.int .i64 (dbm m)) ∧ w' = w := by
  rcases (show m = 1 ∨ m = 2 ∨ m = 3 ∨ m = 4 ∨ m = 5 ∨ m = 6 ∨ m = 7 ∨ m = 8 ∨ m = 9 ∨ m = 10 ∨ m = 11 ∨ m = 12 by omega) with rfl | rfl | rfl | rfl | rfl | rfl | rfl | rfl | rfl | rfl | rfl | rfl
  all_goals
    go_enter Try.func16, Try.ntmps16
    go_wp2
    go_ret
    exact ⟨rfl, rfl⟩

set_option maxHeartbeats 400000 in
theorem isLeap17 (y : Int) (w : World) :
    Calls Try.prog 17 #[.int .i64 y] w fun e w' => e = .returned (.bool (leapB y)) ∧ w' = w := by
  go_enter Try.func17, Try.ntmps17
  go_wp2
  all_goals (go_ret; exact ⟨by simp [leapB, *], rfl⟩)

set_option maxHeartbeats 1000000 in
theorem model11 (y m d : Int) (w : World) (hy1 : -20000 < y) (hy2 : y ≤ 1048576) (hm1 : 1 ≤ m) (hm2 : m ≤ 12) (hd1 : 1 ≤ d) (hd2 : d ≤ 31) :
    Calls Try.prog 11 #[.int .i64 y, .int .i64 m, .int .i64 d] w fun e w' => e = .returned (.int .i64 (modelM y m d)) ∧ w' = w := by
  have hleap := leapT_bounds (y - 1) (by omega) (by omega)
  have hdb := dbm_bounds m
  have h69 : leapT 1969 = 477 := by decide
  have H69 : Hid (leapT 1969 = 477) := h69
  clear h69
  have HM : Hid (modelM y m d = 365 * (y - 1970) + leapT (y - 1) - 477 + dbm m + (if 2 < m ∧ leapB y = true then 1 else 0) + d - 1) := rfl
  by_cases hm : 2 < m
  · cases hl : leapB y with
    | true =>
      have HL : Hid (leapB y = true) := hl
      clear hl
      go_enter Try.func11, Try.ntmps11
      go_wp2_with fail
      refine (leap15 _ _ (by omega) (by omega)).mono ?_
      rintro e w' ⟨rfl, rfl⟩
      go_wp2_with fail
      refine (leap15 _ _ (by omega) (by omega)).mono ?_
      rintro e w' ⟨rfl, rfl⟩
      rw [H69.out]
      go_wp2_with fail
      refine (dbm16 _ _ hm1 hm2).mono ?_
      rintro e w' ⟨rfl, rfl⟩
      go_wp2_with fail
      refine (isLeap17 _ _).mono ?_
      rintro e w' ⟨rfl, rfl⟩
      rw [HL.out]
      go_wp2_with fail
      go_ret
      exact ⟨ret_int (by rw [HM.out, if_pos ⟨hm, HL.out⟩]), rfl⟩
    | false =>
      have HL : Hid (leapB y = false) := hl
      clear hl
      go_enter Try.func11, Try.ntmps11
      go_wp2_with fail
      refine (leap15 _ _ (by omega) (by omega)).mono ?_
      rintro e w' ⟨rfl, rfl⟩
      go_wp2_with fail
      refine (leap15 _ _ (by omega) (by omega)).mono ?_
      rintro e w' ⟨rfl, rfl⟩
      rw [H69.out]
      go_wp2_with fail
      refine (dbm16 _ _ hm1 hm2).mono ?_
      rintro e w' ⟨rfl, rfl⟩
      go_wp2_with fail
      refine (isLeap17 _ _).mono ?_
      rintro e w' ⟨rfl, rfl⟩
      rw [HL.out]
      go_wp2_with fail
      go_ret
      exact ⟨ret_int (by rw [HM.out, if_neg (by rintro ⟨_, h⟩; rw [HL.out] at h; cases h)]; omega), rfl⟩
  · have hm' : m ≤ 2 := by omega
    go_enter Try.func11, Try.ntmps11
    go_wp2_with fail
    refine (leap15 _ _ (by omega) (by omega)).mono ?_
    rintro e w' ⟨rfl, rfl⟩
    go_wp2_with fail
    refine (leap15 _ _ (by omega) (by omega)).mono ?_
    rintro e w' ⟨rfl, rfl⟩
    rw [H69.out]
    go_wp2_with fail
    refine (dbm16 _ _ hm1 hm2).mono ?_
    rintro e w' ⟨rfl, rfl⟩
    go_wp2_with fail
    go_ret
    exact ⟨ret_int (by rw [HM.out, if_neg (by rintro ⟨h, _⟩; omega)]; omega), rfl⟩

end Go.Proofs.Qxb6603312a
