/-
  Seat b6602269a: the walks on the road of FnFitsAcceptsItselfExactlyWithoutDigitMark: the byte guard, 'fits' at one string twice, the law.
-/
import Derived.Test.Qxb6602269aRows
import Derived.WalkKit
import Derived.ProofKit
import Derived.OpenShut
import Derived.ShutString
namespace Go.Proofs.Qxb6602269a.Fits
open Go.ChangeShapes Go.WideShapes Go.ChangeAt Go.RowKit

/-! ### plain -/
def hasD (l : List UInt8) : Bool := l.any (fun c => c.toNat == 100)

theorem take_snoc (s : ByteArray) (k : Nat) (h : k < s.size) : s.data.toList.take (k + 1) = s.data.toList.take k ++ [s[k]] := by
  rw [List.take_succ_eq_append_getElem (by simpa using h)]; rfl
theorem hasD_snoc (s : ByteArray) (k : Nat) (h : k < s.size) : hasD (s.data.toList.take (k + 1)) = (hasD (s.data.toList.take k) || (s[k].toNat == 100)) := by
  rw [take_snoc s k h]; simp [hasD]
theorem hasD_all (s : ByteArray) (k : Nat) (h : ¬ k < s.size) : hasD (s.data.toList.take k) = hasD s.data.toList := by
  rw [List.take_of_length_le (by simp; omega)]
theorem hasD_yes (s : ByteArray) (k : Nat) (h : k < s.size) (hc : s[k].toNat = 100) : hasD s.data.toList = true := by
  unfold hasD
  rw [List.any_eq_true]
  refine ⟨s[k], ?_, by simp [hc]⟩
  have : s.data.toList[k]'(by simpa using h) ∈ s.data.toList := List.getElem_mem _
  exact this

/-! ### the guard -/
theorem bytes_ok (s : ByteArray) (w : World) (hs : s.size ≤ 1048576) :
    Calls Try.prog 13 #[.string s] w fun e w' => e = .returned (.bool true) ∧ w' = w := by
  go_enter Try.func13, Try.ntmps13
  go_wp2
  go_ret
  exact ⟨rfl, rfl⟩
theorem bytes_no (s : ByteArray) (w : World) (hm : s.size ≤ maxLen) (hs : 1048576 < s.size) :
    Calls Try.prog 13 #[.string s] w fun e w' => e = .returned (.bool false) ∧ w' = w := by
  unfold maxLen at hm
  go_enter Try.func13, Try.ntmps13
  go_wp2
  go_ret
  exact ⟨rfl, rfl⟩

/-! ### 'fits' at one string twice -/
theorem ret_bool {a b : Bool} (h : a = b) : Ending.returned (.bool a) = .returned (.bool b) := by rw [h]

set_option maxHeartbeats 400000 in
theorem fits_self (s : ByteArray) (w : World) (hs : s.size ≤ 1048576) :
    Calls Try.prog 18 #[.string s, .string s] w fun e w' => e = .returned (.bool (!hasD s.data.toList)) ∧ w' = w := by
  go_enter Try.func18, Try.ntmps18
  go_wp2
  go_loop [14] (fun i => ∃ k : Nat, k ≤ s.size ∧ i = .int .i64 k ∧ hasD (s.data.toList.take k) = false) (fun i => s.size - (intOf i).toNat)
  case atStart => exact ⟨0, Nat.zero_le _, rfl, rfl⟩
  case round =>
    obtain ⟨k, hk, rfl, hd⟩ := hrel
    have Hd : Hid (hasD (s.data.toList.take k) = false) := hd
    clear hd
    by_cases hlt : k < s.size
    · by_cases h1 : s[k].toNat = 100
      · have H1 : Hid (hasD s.data.toList = true) := hasD_yes s k hlt h1
        have g1 : ((s[k].toNat : Int) == 100) = true := by rw [beq_iff_eq]; omega
        have g2 : 57 < (s[k].toNat : Int) := by omega
        clear h1
        go_wp2
        go_ret
        exact ⟨ret_bool (by rw [H1.out]; rfl), rfl⟩
      · have g1 : ((s[k].toNat : Int) == 100) = false := by rw [beq_eq_false_iff_ne]; omega
        have H1 : Hid (hasD (s.data.toList.take (k + 1)) = false) := by
          have := hasD_snoc s k hlt
          show hasD (s.data.toList.take (k + 1)) = false
          rw [this, Hd.out]
          simpa using h1
        by_cases h2 : s[k].toNat = 84
        · have g2 : ((s[k].toNat : Int) == 84) = true := by rw [beq_iff_eq]; omega
          have g3 : ((s[k].toNat : Int) != 84) = false := by rw [bne_eq_false_iff_eq]; omega
          clear h1 h2
          go_wp2
          go_round
          case rel => exact ⟨k + 1, by omega, by go_num, H1.out⟩
          case measure => simp [intOf]; omega
        · have g2 : ((s[k].toNat : Int) == 84) = false := by rw [beq_eq_false_iff_ne]; omega
          by_cases h3 : s[k].toNat = 43
          · have g3 : ((s[k].toNat : Int) == 43) = true := by rw [beq_iff_eq]; omega
            have g4 : ((s[k].toNat : Int) != 43) = false := by rw [bne_eq_false_iff_eq]; omega
            clear h1 h2 h3
            go_wp2
            go_round
            case rel => exact ⟨k + 1, by omega, by go_num, H1.out⟩
            case measure => simp [intOf]; omega
          · have g3 : ((s[k].toNat : Int) == 43) = false := by rw [beq_eq_false_iff_ne]; omega
            clear h1 h2 h3
            go_wp2
            go_round
            case rel => exact ⟨k + 1, by omega, by go_num, H1.out⟩
            case measure => simp [intOf]; omega
    · have H1 : Hid (hasD s.data.toList = false) := by
        show hasD s.data.toList = false
        rw [← hasD_all s k hlt]; exact Hd.out
      go_wp2
      go_ret
      exact ⟨ret_bool (by rw [H1.out]; rfl), rfl⟩

theorem zzfits_self (s : ByteArray) (w : World) (hs : s.size ≤ 1048576) :
    Calls Try.prog 14 #[.string s, .string s] w fun e w' => e = .returned (.bool (!hasD s.data.toList)) ∧ w' = w := by
  go_enter Try.func14, Try.ntmps14
  go_wp2_with (go_at_call 18; refine (fits_self _ _ hs).mono ?_; rintro e w' ⟨rfl, rfl⟩)
  go_ret
  exact ⟨rfl, rfl⟩

/-! ### the law -/
set_option maxHeartbeats 400000 in
theorem law (s : ByteArray) (hm : s.size ≤ maxLen) (w : World) :
    Calls Try.prog 6 #[.string s] w fun e w' => e = .returned (.bool true) ∧ w' = w := by
  by_cases hs : s.size ≤ 1048576
  · go_enter Try.func6, Try.ntmps6
    go_wp2_with (go_at_call 13; refine (bytes_ok _ _ hs).mono ?_; rintro e w' ⟨rfl, rfl⟩)
    go_loop [3, 4] (fun d i => ∃ k : Nat, k ≤ s.size ∧ i = .int .i64 k ∧ d = .bool (hasD (s.data.toList.take k))) (fun _ i => s.size - (intOf i).toNat)
    case atStart => exact ⟨0, Nat.zero_le _, rfl, rfl⟩
    case round =>
      obtain ⟨k, hk, rfl, rfl⟩ := hrel
      by_cases hlt : k < s.size
      · have H1 : Hid (hasD (s.data.toList.take (k + 1)) = (hasD (s.data.toList.take k) || (s[k].toNat == 100))) := hasD_snoc s k hlt
        by_cases h1 : s[k].toNat = 100
        · have g1 : ((s[k].toNat : Int) == 100) = true := by rw [beq_iff_eq]; omega
          have H2 : Hid (s[k].toNat = 100) := h1
          clear h1
          go_wp2
          go_round
          case rel => exact ⟨k + 1, by omega, by go_num, by rw [H1.out, H2.out]; simp⟩
          case measure => simp [intOf]; omega
        · have g1 : ((s[k].toNat : Int) == 100) = false := by rw [beq_eq_false_iff_ne]; omega
          have H2 : Hid ((s[k].toNat == 100) = false) := by show (s[k].toNat == 100) = false; simpa using h1
          clear h1
          go_wp2
          go_round
          case rel => exact ⟨k + 1, by omega, by go_num, by rw [H1.out, H2.out, Bool.or_false]⟩
          case measure => simp [intOf]; omega
      · have H1 : Hid (hasD (s.data.toList.take k) = hasD s.data.toList) := hasD_all s k hlt
        rw [H1.out]
        go_wp2_with (go_at_call 14; refine (zzfits_self _ _ hs).mono ?_; rintro e w' ⟨rfl, rfl⟩)
        go_ret
        exact ⟨ret_bool (by simp), rfl⟩
  · have hs' : 1048576 < s.size := by omega
    go_enter Try.func6, Try.ntmps6
    go_wp2_with (go_at_call 13; refine (bytes_no _ _ hm hs').mono ?_; rintro e w' ⟨rfl, rfl⟩)
    go_ret
    exact ⟨rfl, rfl⟩
end Go.Proofs.Qxb6602269a.Fits
