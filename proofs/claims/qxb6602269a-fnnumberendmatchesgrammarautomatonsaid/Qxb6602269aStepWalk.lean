/-
  Seat b6602269a: the walk of numberStep, state by state, by the kinds of byte.
-/
import Derived.Test.Qxb6602269aRows
import Derived.Test.Qxb6602269aPlain
import Derived.WalkKit
import Derived.ProofKit
import Derived.OpenShut
namespace Go.Proofs.Qxb6602269a.Num
open Go.ChangeShapes Go.WideShapes Go.ChangeAt Go.RowKit

/-- the table's answer as an int -/
def stepZ (st c : Nat) : Int := match step st c with | some x => (x : Int) | none => -1
theorem ret_step {a b : Int} (h : a = b) : Ending.returned (.int .i64 a) = .returned (.int .i64 b) := by rw [h]

/-- a byte that is none of the grammar's -/
def Other (c : Nat) : Prop := dig c = false ∧ c ≠ 43 ∧ c ≠ 45 ∧ c ≠ 46 ∧ c ≠ 48 ∧ c ≠ 69 ∧ c ≠ 101
/-- a digit other than zero -/
def Digit (c : Nat) : Prop := dig c = true ∧ c ≠ 43 ∧ c ≠ 45 ∧ c ≠ 46 ∧ c ≠ 48 ∧ c ≠ 69 ∧ c ≠ 101

theorem z_other {st c : Nat} (hst : st ≤ 8) (h : Other c) : stepZ st c = -1 := by
  obtain ⟨k0, k1, k2, k3, k4, k5, k6⟩ := h
  rcases (show st = 0 ∨ st = 1 ∨ st = 2 ∨ st = 3 ∨ st = 4 ∨ st = 5 ∨ st = 6 ∨ st = 7 ∨ st = 8 from by omega) with rfl | rfl | rfl | rfl | rfl | rfl | rfl | rfl | rfl
  all_goals simp_all [stepZ, step]
/-- where a digit leads -/
def toDigit (st : Nat) : Int := stepZ st 49
theorem z_digit {st c : Nat} (hst : st ≤ 8) (h : Digit c) : stepZ st c = toDigit st := by
  obtain ⟨k0, k1, k2, k3, k4, k5, k6⟩ := h
  have k7 : dig 49 = true := by decide
  rcases (show st = 0 ∨ st = 1 ∨ st = 2 ∨ st = 3 ∨ st = 4 ∨ st = 5 ∨ st = 6 ∨ st = 7 ∨ st = 8 from by omega) with rfl | rfl | rfl | rfl | rfl | rfl | rfl | rfl | rfl
  all_goals simp_all [toDigit, stepZ, step]

set_option maxHeartbeats 1000000 in
theorem step_digit (st c : Nat) (hst : st ≤ 8) (h1 : 48 < (c : Int)) (h2 : (c : Int) ≤ 57) (w : World) :
    Calls Try.prog 17 #[.int .i64 st, .int .u8 c] w fun e w' => e = .returned (.int .i64 (stepZ st c)) ∧ w' = w := by
  have H : Hid (Digit c) := by
    show Digit c
    unfold Digit
    refine ⟨?_, by omega, by omega, by omega, by omega, by omega, by omega⟩
    simp [dig]; omega
  have g1 : ((c : Int) == 43) = false := by rw [beq_eq_false_iff_ne]; omega
  have g2 : ((c : Int) == 45) = false := by rw [beq_eq_false_iff_ne]; omega
  have g3 : ((c : Int) == 46) = false := by rw [beq_eq_false_iff_ne]; omega
  have g4 : ((c : Int) == 48) = false := by rw [beq_eq_false_iff_ne]; omega
  have g5 : ((c : Int) == 69) = false := by rw [beq_eq_false_iff_ne]; omega
  have g6 : ((c : Int) == 101) = false := by rw [beq_eq_false_iff_ne]; omega
  rcases (show st = 0 ∨ st = 1 ∨ st = 2 ∨ st = 3 ∨ st = 4 ∨ st = 5 ∨ st = 6 ∨ st = 7 ∨ st = 8 from by omega) with rfl | rfl | rfl | rfl | rfl | rfl | rfl | rfl | rfl
  all_goals
    clear hst
    go_enter Try.func17, Try.ntmps17
    go_wp2
    go_ret
    exact ⟨ret_step (by rw [z_digit (by decide) H.out]; rfl), rfl⟩

set_option maxHeartbeats 1000000 in
theorem step_other (st c : Nat) (hst : st ≤ 8) (h : Other c) (w : World) :
    Calls Try.prog 17 #[.int .i64 st, .int .u8 c] w fun e w' => e = .returned (.int .i64 (stepZ st c)) ∧ w' = w := by
  have H : Hid (Other c) := h
  obtain ⟨k0, k1, k2, k3, k4, k5, k6⟩ := h
  have g1 : ((c : Int) == 43) = false := by rw [beq_eq_false_iff_ne]; omega
  have g2 : ((c : Int) == 45) = false := by rw [beq_eq_false_iff_ne]; omega
  have g3 : ((c : Int) == 46) = false := by rw [beq_eq_false_iff_ne]; omega
  have g4 : ((c : Int) == 48) = false := by rw [beq_eq_false_iff_ne]; omega
  have g5 : ((c : Int) == 69) = false := by rw [beq_eq_false_iff_ne]; omega
  have g6 : ((c : Int) == 101) = false := by rw [beq_eq_false_iff_ne]; omega
  have hd : (c : Int) < 48 ∨ 57 < (c : Int) := by simp [dig] at k0; omega
  clear k0 k1 k2 k3 k4 k5 k6
  rcases hd with hd | hd
  all_goals
    rcases (show st = 0 ∨ st = 1 ∨ st = 2 ∨ st = 3 ∨ st = 4 ∨ st = 5 ∨ st = 6 ∨ st = 7 ∨ st = 8 from by omega) with rfl | rfl | rfl | rfl | rfl | rfl | rfl | rfl | rfl
    all_goals
      clear hst
      go_enter Try.func17, Try.ntmps17
      go_wp2
      go_ret
      exact ⟨ret_step (by rw [z_other (by decide) H.out]), rfl⟩

set_option maxHeartbeats 1000000 in
theorem step_43 (st : Nat) (hst : st ≤ 8) (w : World) :
    Calls Try.prog 17 #[.int .i64 st, .int .u8 (43 : Nat)] w fun e w' => e = .returned (.int .i64 (stepZ st 43)) ∧ w' = w := by
  rcases (show st = 0 ∨ st = 1 ∨ st = 2 ∨ st = 3 ∨ st = 4 ∨ st = 5 ∨ st = 6 ∨ st = 7 ∨ st = 8 from by omega) with rfl | rfl | rfl | rfl | rfl | rfl | rfl | rfl | rfl
  all_goals
    clear hst
    go_enter Try.func17, Try.ntmps17
    go_wp2
    go_ret
    exact ⟨rfl, rfl⟩

set_option maxHeartbeats 1000000 in
theorem step_45 (st : Nat) (hst : st ≤ 8) (w : World) :
    Calls Try.prog 17 #[.int .i64 st, .int .u8 (45 : Nat)] w fun e w' => e = .returned (.int .i64 (stepZ st 45)) ∧ w' = w := by
  rcases (show st = 0 ∨ st = 1 ∨ st = 2 ∨ st = 3 ∨ st = 4 ∨ st = 5 ∨ st = 6 ∨ st = 7 ∨ st = 8 from by omega) with rfl | rfl | rfl | rfl | rfl | rfl | rfl | rfl | rfl
  all_goals
    clear hst
    go_enter Try.func17, Try.ntmps17
    go_wp2
    go_ret
    exact ⟨rfl, rfl⟩

set_option maxHeartbeats 1000000 in
theorem step_46 (st : Nat) (hst : st ≤ 8) (w : World) :
    Calls Try.prog 17 #[.int .i64 st, .int .u8 (46 : Nat)] w fun e w' => e = .returned (.int .i64 (stepZ st 46)) ∧ w' = w := by
  rcases (show st = 0 ∨ st = 1 ∨ st = 2 ∨ st = 3 ∨ st = 4 ∨ st = 5 ∨ st = 6 ∨ st = 7 ∨ st = 8 from by omega) with rfl | rfl | rfl | rfl | rfl | rfl | rfl | rfl | rfl
  all_goals
    clear hst
    go_enter Try.func17, Try.ntmps17
    go_wp2
    go_ret
    exact ⟨rfl, rfl⟩

set_option maxHeartbeats 1000000 in
theorem step_48 (st : Nat) (hst : st ≤ 8) (w : World) :
    Calls Try.prog 17 #[.int .i64 st, .int .u8 (48 : Nat)] w fun e w' => e = .returned (.int .i64 (stepZ st 48)) ∧ w' = w := by
  rcases (show st = 0 ∨ st = 1 ∨ st = 2 ∨ st = 3 ∨ st = 4 ∨ st = 5 ∨ st = 6 ∨ st = 7 ∨ st = 8 from by omega) with rfl | rfl | rfl | rfl | rfl | rfl | rfl | rfl | rfl
  all_goals
    clear hst
    go_enter Try.func17, Try.ntmps17
    go_wp2
    go_ret
    exact ⟨rfl, rfl⟩

set_option maxHeartbeats 1000000 in
theorem step_69 (st : Nat) (hst : st ≤ 8) (w : World) :
    Calls Try.prog 17 #[.int .i64 st, .int .u8 (69 : Nat)] w fun e w' => e = .returned (.int .i64 (stepZ st 69)) ∧ w' = w := by
  rcases (show st = 0 ∨ st = 1 ∨ st = 2 ∨ st = 3 ∨ st = 4 ∨ st = 5 ∨ st = 6 ∨ st = 7 ∨ st = 8 from by omega) with rfl | rfl | rfl | rfl | rfl | rfl | rfl | rfl | rfl
  all_goals
    clear hst
    go_enter Try.func17, Try.ntmps17
    go_wp2
    go_ret
    exact ⟨rfl, rfl⟩

set_option maxHeartbeats 1000000 in
theorem step_101 (st : Nat) (hst : st ≤ 8) (w : World) :
    Calls Try.prog 17 #[.int .i64 st, .int .u8 (101 : Nat)] w fun e w' => e = .returned (.int .i64 (stepZ st 101)) ∧ w' = w := by
  rcases (show st = 0 ∨ st = 1 ∨ st = 2 ∨ st = 3 ∨ st = 4 ∨ st = 5 ∨ st = 6 ∨ st = 7 ∨ st = 8 from by omega) with rfl | rfl | rfl | rfl | rfl | rfl | rfl | rfl | rfl
  all_goals
    clear hst
    go_enter Try.func17, Try.ntmps17
    go_wp2
    go_ret
    exact ⟨rfl, rfl⟩

theorem step_any (st c : Nat) (hst : st ≤ 8) (w : World) :
    Calls Try.prog 17 #[.int .i64 st, .int .u8 c] w fun e w' => e = .returned (.int .i64 (stepZ st c)) ∧ w' = w := by
  by_cases h1 : c = 43
  · subst h1; exact step_43 st hst w
  by_cases h2 : c = 45
  · subst h2; exact step_45 st hst w
  by_cases h3 : c = 46
  · subst h3; exact step_46 st hst w
  by_cases h4 : c = 48
  · subst h4; exact step_48 st hst w
  by_cases h5 : c = 69
  · subst h5; exact step_69 st hst w
  by_cases h6 : c = 101
  · subst h6; exact step_101 st hst w
  by_cases h7 : dig c = true
  · have := dig_not h7
    exact step_digit st c hst (by omega) (by omega) w
  · exact step_other st c hst ⟨by simpa using h7, h1, h2, h3, h4, h5, h6⟩ w
end Go.Proofs.Qxb6602269a.Num
