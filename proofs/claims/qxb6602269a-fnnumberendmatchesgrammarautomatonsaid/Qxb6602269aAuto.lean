/-
  Seat b6602269a: the walk of numberAutomaton, and the law that it answers as numberEnd.
-/
import Derived.Test.Qxb6602269aNumWalks
import Derived.Test.Qxb6602269aStepWalk
namespace Go.Proofs.Qxb6602269a.Num
open Go.ChangeShapes Go.WideShapes Go.ChangeAt Go.RowKit

theorem step_le {st c x : Nat} (h : step st c = some x) : x ≤ 8 := by
  unfold step at h
  split at h <;> (repeat' split at h) <;> simp at h <;> omega

/-- the kinds of a last state -/
theorem kinds (st : Nat) : st = 2 ∨ st = 3 ∨ st = 5 ∨ st = 8 ∨ (st ≠ 2 ∧ st ≠ 3 ∧ st ≠ 5 ∧ st ≠ 8) := by omega
theorem z_some {st c x : Nat} (h : step st c = some x) : stepZ st c = x := by unfold stepZ; rw [h]
theorem z_none {st c : Nat} (h : step st c = none) : stepZ st c = -1 := by unfold stepZ; rw [h]

set_option maxHeartbeats 1000000 in
theorem auto_any (s : ByteArray) (p : Nat) (w : World) (hs : s.size ≤ 1048576) :
    Calls Try.prog 10 #[.string s, .int .i64 p] w fun e w' => e = .returned (.int .i64 (acc (runAt s.data.toList 0 p))) ∧ w' = w := by
  go_enter Try.func10, Try.ntmps10
  go_wp2
  go_loop [5, 6] (fun a b => ∃ st k : Nat, st ≤ 8 ∧ a = .int .i64 st ∧ b = .int .i64 k ∧ Hid (runAt s.data.toList 0 p = runAt s.data.toList st k)) (fun _ b => s.size - (intOf b).toNat)
  case atStart => exact ⟨0, p, by omega, rfl, rfl, rfl⟩
  case round =>
    obtain ⟨st, k, hst, rfl, rfl, Hr⟩ := hrel
    by_cases hlt : k < s.size
    · have HS : Hid (∀ wx, Calls Try.prog 17 #[.int .i64 st, .int .u8 (s[k].toNat : Nat)] wx fun e w' => e = .returned (.int .i64 (stepZ st s[k].toNat)) ∧ w' = wx) := step_any st s[k].toNat hst
      have hat := at_s s k hlt
      cases hst' : step st s[k].toNat with
      | some x =>
        have hx := step_le hst'
        rw [z_some hst'] at HS
        have H1 : Hid (runAt s.data.toList 0 p = runAt s.data.toList x (k + 1)) := by
          show _ = _
          rw [Hr.out]
          exact runAt_some (by rw [hat]; exact hst')
        clear hst' hat Hr
        go_wp2_with (go_at_call 17; refine (HS.out _).mono ?_; rintro e w' ⟨rfl, rfl⟩)
        go_round
        case rel => exact ⟨x, k + 1, hx, rfl, by go_num, H1⟩
        case measure => simp [intOf]; omega
      | none =>
        rw [z_none hst'] at HS
        have HE : Hid (runAt s.data.toList st k = (st, k)) := runAt_none (by rw [hat]; exact hst')
        clear hst' hat
        rcases kinds st with rfl | rfl | rfl | rfl | ⟨n2, n3, n5, n8⟩
        · have HA : Hid (acc (runAt s.data.toList 0 p) = k) := by
            show _ = _
            rw [Hr.out, HE.out]; rfl
          go_wp2_with (go_at_call 17; refine (HS.out _).mono ?_; rintro e w' ⟨rfl, rfl⟩)
          go_ret
          exact ⟨ret_int HA.out.symm, rfl⟩
        · have HA : Hid (acc (runAt s.data.toList 0 p) = k) := by
            show _ = _
            rw [Hr.out, HE.out]; rfl
          go_wp2_with (go_at_call 17; refine (HS.out _).mono ?_; rintro e w' ⟨rfl, rfl⟩)
          go_ret
          exact ⟨ret_int HA.out.symm, rfl⟩
        · have HA : Hid (acc (runAt s.data.toList 0 p) = k) := by
            show _ = _
            rw [Hr.out, HE.out]; rfl
          go_wp2_with (go_at_call 17; refine (HS.out _).mono ?_; rintro e w' ⟨rfl, rfl⟩)
          go_ret
          exact ⟨ret_int HA.out.symm, rfl⟩
        · have HA : Hid (acc (runAt s.data.toList 0 p) = k) := by
            show _ = _
            rw [Hr.out, HE.out]; rfl
          go_wp2_with (go_at_call 17; refine (HS.out _).mono ?_; rintro e w' ⟨rfl, rfl⟩)
          go_ret
          exact ⟨ret_int HA.out.symm, rfl⟩
        · have HA : Hid (acc (runAt s.data.toList 0 p) = -1) := by
            show _ = _
            rw [Hr.out, HE.out]; simp [acc, n2, n3, n5, n8]
          have g2 : ((st : Int) == 2) = false := by rw [beq_eq_false_iff_ne]; omega
          have g3 : ((st : Int) == 3) = false := by rw [beq_eq_false_iff_ne]; omega
          have g5 : ((st : Int) == 5) = false := by rw [beq_eq_false_iff_ne]; omega
          have g8 : ((st : Int) == 8) = false := by rw [beq_eq_false_iff_ne]; omega
          clear n2 n3 n5 n8
          go_wp2_with (go_at_call 17; refine (HS.out _).mono ?_; rintro e w' ⟨rfl, rfl⟩)
          go_ret
          exact ⟨ret_int HA.out.symm, rfl⟩
    · have HE : Hid (runAt s.data.toList st k = (st, k)) := runAt_none (by rw [at_out s k hlt]; exact step_256 st)
      rcases kinds st with rfl | rfl | rfl | rfl | ⟨n2, n3, n5, n8⟩
      · have HA : Hid (acc (runAt s.data.toList 0 p) = k) := by
          show _ = _
          rw [Hr.out, HE.out]; rfl
        go_wp2
        go_ret
        exact ⟨ret_int HA.out.symm, rfl⟩
      · have HA : Hid (acc (runAt s.data.toList 0 p) = k) := by
          show _ = _
          rw [Hr.out, HE.out]; rfl
        go_wp2
        go_ret
        exact ⟨ret_int HA.out.symm, rfl⟩
      · have HA : Hid (acc (runAt s.data.toList 0 p) = k) := by
          show _ = _
          rw [Hr.out, HE.out]; rfl
        go_wp2
        go_ret
        exact ⟨ret_int HA.out.symm, rfl⟩
      · have HA : Hid (acc (runAt s.data.toList 0 p) = k) := by
          show _ = _
          rw [Hr.out, HE.out]; rfl
        go_wp2
        go_ret
        exact ⟨ret_int HA.out.symm, rfl⟩
      · have HA : Hid (acc (runAt s.data.toList 0 p) = -1) := by
          show _ = _
          rw [Hr.out, HE.out]; simp [acc, n2, n3, n5, n8]
        have g2 : ((st : Int) == 2) = false := by rw [beq_eq_false_iff_ne]; omega
        have g3 : ((st : Int) == 3) = false := by rw [beq_eq_false_iff_ne]; omega
        have g5 : ((st : Int) == 5) = false := by rw [beq_eq_false_iff_ne]; omega
        have g8 : ((st : Int) == 8) = false := by rw [beq_eq_false_iff_ne]; omega
        clear n2 n3 n5 n8
        go_wp2
        go_ret
        exact ⟨ret_int HA.out.symm, rfl⟩

/-! ### the guard, and the law -/
theorem guard8_ok (s : ByteArray) (x : Int) (w : World) (hs : s.size ≤ 1048576) :
    Calls Try.prog 8 #[.string s, .int .i64 x] w fun e w' => e = .returned (.bool true) ∧ w' = w := by
  go_enter Try.func8, Try.ntmps8
  go_wp2
  go_ret
  exact ⟨rfl, rfl⟩
theorem guard8_no (s : ByteArray) (x : Int) (w : World) (hm : s.size ≤ maxLen) (hs : 1048576 < s.size) :
    Calls Try.prog 8 #[.string s, .int .i64 x] w fun e w' => e = .returned (.bool false) ∧ w' = w := by
  unfold maxLen at hm
  go_enter Try.func8, Try.ntmps8
  go_wp2
  go_ret
  exact ⟨rfl, rfl⟩

set_option maxHeartbeats 400000 in
theorem matches_ (s : ByteArray) (x : Int) (hm : s.size ≤ maxLen) (w : World) :
    Calls Try.prog 3 #[.string s, .int .i64 x] w fun e w' => e = .returned (.bool true) ∧ Grown w w' := by
  by_cases hs : s.size ≤ 1048576
  · by_cases h0 : x < 0
    · go_enter Try.func3, Try.ntmps3
      go_wp2_with (go_at_call 8; refine (guard8_ok _ _ _ hs).mono ?_; rintro e w' ⟨rfl, rfl⟩)
      go_ret
      exact ⟨rfl, Grown.refl _⟩
    · obtain ⟨p, rfl⟩ := Int.eq_ofNat_of_zero_le (Int.not_lt.1 h0)
      have HA : Hid (∀ wx, Calls Try.prog 9 #[.string s, .int .i64 p] wx fun e w' => e = .returned (.int .i64 (end_ (num s.data.toList p))) ∧ Grown wx w') := fun wx => zznumber_any s p p rfl wx hs
      have HB : Hid (∀ wx, Calls Try.prog 10 #[.string s, .int .i64 p] wx fun e w' => e = .returned (.int .i64 (end_ (num s.data.toList p))) ∧ w' = wx) := fun wx => by
        rw [auto_num]
        exact auto_any s p wx hs
      generalize end_ (num s.data.toList p) = a at *
      go_enter Try.func3, Try.ntmps3
      go_wp2_with (go_at_call 8; refine (guard8_ok _ _ _ hs).mono ?_; rintro e w' ⟨rfl, rfl⟩)
      refine (HA.out _).mono ?_
      rintro e w1 ⟨rfl, hg1⟩
      go_wp2_with fail
      refine (HB.out _).mono ?_
      rintro e w2 ⟨rfl, hw2⟩
      go_wp2
      go_ret
      exact ⟨ret_bool (by simp), hg1⟩
  · have hs' : 1048576 < s.size := by omega
    go_enter Try.func3, Try.ntmps3
    go_wp2_with (go_at_call 8; refine (guard8_no _ _ _ hm hs').mono ?_; rintro e w' ⟨rfl, rfl⟩)
    go_ret
    exact ⟨rfl, Grown.refl _⟩
end Go.Proofs.Qxb6602269a.Num
