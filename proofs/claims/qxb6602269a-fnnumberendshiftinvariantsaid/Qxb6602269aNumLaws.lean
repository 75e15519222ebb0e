/-
  Seat b6602269a: the laws of shifts and of truncation, out of numberEnd's contract.
-/
import Derived.Test.Qxb6602269aNumWalks
namespace Go.Proofs.Qxb6602269a.Num
open Go.ChangeShapes Go.WideShapes Go.ChangeAt Go.RowKit

/-! ### the guards -/
theorem guard11_ok (s : ByteArray) (x : Int) (w : World) (hs : s.size ≤ 1048576) :
    Calls Try.prog 11 #[.string s, .int .i64 x] w fun e w' => e = .returned (.bool true) ∧ w' = w := by
  go_enter Try.func11, Try.ntmps11
  go_wp2
  go_ret
  exact ⟨rfl, rfl⟩
theorem guard11_no (s : ByteArray) (x : Int) (w : World) (hm : s.size ≤ maxLen) (hs : 1048576 < s.size) :
    Calls Try.prog 11 #[.string s, .int .i64 x] w fun e w' => e = .returned (.bool false) ∧ w' = w := by
  unfold maxLen at hm
  go_enter Try.func11, Try.ntmps11
  go_wp2
  go_ret
  exact ⟨rfl, rfl⟩
theorem guard12_ok (s : ByteArray) (x : Int) (w : World) (hs : s.size ≤ 1048576) :
    Calls Try.prog 12 #[.string s, .int .i64 x] w fun e w' => e = .returned (.bool true) ∧ w' = w := by
  go_enter Try.func12, Try.ntmps12
  go_wp2
  go_ret
  exact ⟨rfl, rfl⟩
theorem guard12_no (s : ByteArray) (x : Int) (w : World) (hm : s.size ≤ maxLen) (hs : 1048576 < s.size) :
    Calls Try.prog 12 #[.string s, .int .i64 x] w fun e w' => e = .returned (.bool false) ∧ w' = w := by
  unfold maxLen at hm
  go_enter Try.func12, Try.ntmps12
  go_wp2
  go_ret
  exact ⟨rfl, rfl⟩

theorem grown_trans {a b c : World} (h : Grown a b) (g : Grown b c) : Grown a c :=
  ⟨World.keptBut_trans h.1 g.1, fun x => (g.2.1 x).trans (h.2.1 x), Nat.le_trans h.2.2 g.2.2⟩

theorem drop_s (s : ByteArray) (p : Nat) : (s.extract p s.size).data.toList = s.data.toList.drop p := by
  rw [ByteArray.data_extract, Array.toList_extract, List.extract_eq_take_drop]
  exact List.take_of_length_le (by simp [ByteArray.size_data])
theorem take_s (s : ByteArray) (p : Nat) : (s.extract 0 p).data.toList = s.data.toList.take p := by
  rw [ByteArray.data_extract, Array.toList_extract, List.extract_eq_take_drop]
  simp
theorem end_bd {l : List UInt8} {p : Nat} (h : l.length ≤ 1048576) : -1 ≤ end_ (num l p) ∧ end_ (num l p) ≤ 1048576 := by
  by_cases g : end_ (num l p) = -1
  · omega
  · have := end_take g; omega

/-! ### shifts -/
set_option maxHeartbeats 400000 in
theorem shift (s : ByteArray) (x : Int) (hm : s.size ≤ maxLen) (w : World) :
    Calls Try.prog 4 #[.string s, .int .i64 x] w fun e w' => e = .returned (.bool true) ∧ Grown w w' := by
  by_cases hs : s.size ≤ 1048576
  · by_cases h0 : x < 0
    · go_enter Try.func4, Try.ntmps4
      go_wp2_with (go_at_call 11; refine (guard11_ok _ _ _ hs).mono ?_; rintro e w' ⟨rfl, rfl⟩)
      go_ret
      exact ⟨rfl, Grown.refl _⟩
    · by_cases h1 : (s.size : Int) < x
      · go_enter Try.func4, Try.ntmps4
        go_wp2_with (go_at_call 11; refine (guard11_ok _ _ _ hs).mono ?_; rintro e w' ⟨rfl, rfl⟩)
        go_ret
        exact ⟨rfl, Grown.refl _⟩
      · obtain ⟨p, rfl⟩ := Int.eq_ofNat_of_zero_le (Int.not_lt.1 h0)
        have hp : p ≤ s.size := by omega
        have HA : Hid (∀ wx, Calls Try.prog 9 #[.string s, .int .i64 p] wx fun e w' => e = .returned (.int .i64 (end_ (num s.data.toList p))) ∧ Grown wx w') := fun wx => zznumber_any s p p rfl wx hs
        have HB : Hid (∀ wx, Calls Try.prog 9 #[.string (s.extract p s.size), .int .i64 0] wx fun e w' => e = .returned (.int .i64 (end_ (num (s.data.toList.drop p) 0))) ∧ Grown wx w') := fun wx => by
          have := zznumber_any (s.extract p s.size) 0 0 rfl wx (by simp; omega)
          rw [drop_s] at this
          exact this
        have hl := end_drop s.data.toList p
        have ba := end_bd (l := s.data.toList) (p := p) (by simpa using hs)
        have bb := end_bd (l := s.data.toList.drop p) (p := 0) (by simp; omega)
        generalize end_ (num s.data.toList p) = a at *
        generalize end_ (num (s.data.toList.drop p) 0) = b at *
        rcases hl with ⟨e1, e2⟩ | ⟨l1, l2, e3⟩
        · subst e1 e2
          clear ba bb
          go_enter Try.func4, Try.ntmps4
          go_wp2_with (go_at_call 11; refine (guard11_ok _ _ _ hs).mono ?_; rintro e w' ⟨rfl, rfl⟩)
          refine (HA.out _).mono ?_
          rintro e w1 ⟨rfl, hg1⟩
          go_wp2_with fail
          refine (HB.out _).mono ?_
          rintro e w2 ⟨rfl, hg2⟩
          go_wp2
          go_ret
          exact ⟨rfl, grown_trans hg1 hg2⟩
        · subst e3
          have g1 : ((b + (p : Int)) == -1) = false := by rw [beq_eq_false_iff_ne]; omega
          have g2 : (b == -1) = false := by rw [beq_eq_false_iff_ne]; omega
          go_enter Try.func4, Try.ntmps4
          go_wp2_with (go_at_call 11; refine (guard11_ok _ _ _ hs).mono ?_; rintro e w' ⟨rfl, rfl⟩)
          refine (HA.out _).mono ?_
          rintro e w1 ⟨rfl, hg1⟩
          go_wp2_with fail
          refine (HB.out _).mono ?_
          rintro e w2 ⟨rfl, hg2⟩
          go_wp2
          go_ret
          exact ⟨ret_bool (by simp), grown_trans hg1 hg2⟩
  · have hs' : 1048576 < s.size := by omega
    go_enter Try.func4, Try.ntmps4
    go_wp2_with (go_at_call 11; refine (guard11_no _ _ _ hm hs').mono ?_; rintro e w' ⟨rfl, rfl⟩)
    go_ret
    exact ⟨rfl, Grown.refl _⟩

/-! ### truncation -/
set_option maxHeartbeats 400000 in
theorem trunc (s : ByteArray) (x : Int) (hm : s.size ≤ maxLen) (w : World) :
    Calls Try.prog 5 #[.string s, .int .i64 x] w fun e w' => e = .returned (.bool true) ∧ Grown w w' := by
  by_cases hs : s.size ≤ 1048576
  · by_cases h0 : x < 0
    · go_enter Try.func5, Try.ntmps5
      go_wp2_with (go_at_call 12; refine (guard12_ok _ _ _ hs).mono ?_; rintro e w' ⟨rfl, rfl⟩)
      go_ret
      exact ⟨rfl, Grown.refl _⟩
    · obtain ⟨p, rfl⟩ := Int.eq_ofNat_of_zero_le (Int.not_lt.1 h0)
      have HA : Hid (∀ wx, Calls Try.prog 9 #[.string s, .int .i64 p] wx fun e w' => e = .returned (.int .i64 (end_ (num s.data.toList p))) ∧ Grown wx w') := fun wx => zznumber_any s p p rfl wx hs
      by_cases hn : end_ (num s.data.toList p) = -1
      · rw [hn] at HA
        clear hn
        go_enter Try.func5, Try.ntmps5
        go_wp2_with (go_at_call 12; refine (guard12_ok _ _ _ hs).mono ?_; rintro e w' ⟨rfl, rfl⟩)
        refine (HA.out _).mono ?_
        rintro e w1 ⟨rfl, hg1⟩
        go_wp2
        go_ret
        exact ⟨rfl, hg1⟩
      · obtain ⟨t1, t2, t3⟩ := end_take hn
        obtain ⟨r, hr⟩ := Int.eq_ofNat_of_zero_le (show 0 ≤ end_ (num s.data.toList p) from by omega)
        rw [hr] at HA t1 t2 t3
        rw [Int.toNat_natCast] at t3
        have h1 : r ≤ s.size := by simpa using t2
        have h2 : (p : Int) < (r : Int) := t1
        have HB : Hid (∀ wx, Calls Try.prog 9 #[.string (s.extract 0 r), .int .i64 p] wx fun e w' => e = .returned (.int .i64 r) ∧ Grown wx w') := fun wx => by
          have := zznumber_any (s.extract 0 r) p p rfl wx (by simp; omega)
          rw [take_s, t3] at this
          exact this
        have g1 : ((r : Int) == -1) = false := by rw [beq_eq_false_iff_ne]; omega
        clear hn hr t1 t2 t3
        go_enter Try.func5, Try.ntmps5
        go_wp2_with (go_at_call 12; refine (guard12_ok _ _ _ hs).mono ?_; rintro e w' ⟨rfl, rfl⟩)
        refine (HA.out _).mono ?_
        rintro e w1 ⟨rfl, hg1⟩
        go_wp2_with fail
        refine (HB.out _).mono ?_
        rintro e w2 ⟨rfl, hg2⟩
        go_wp2
        go_ret
        exact ⟨ret_bool (by simp), grown_trans hg1 hg2⟩
  · have hs' : 1048576 < s.size := by omega
    go_enter Try.func5, Try.ntmps5
    go_wp2_with (go_at_call 12; refine (guard12_no _ _ _ hm hs').mono ?_; rintro e w' ⟨rfl, rfl⟩)
    go_ret
    exact ⟨rfl, Grown.refl _⟩
end Go.Proofs.Qxb6602269a.Num
