/-
  Seat b6602300a: the law FnWithinMatchesAncestorChain.
-/
import Derived.Test.Qxb6602300aWithin
namespace Go.Proofs.Qxb6602300a.Wi
open Go.ChangeShapes Go.WideShapes Go.ChangeAt Go.RowKit

theorem guard7_ok (a b c d : ByteArray) (w : World) (h : a.size + b.size + c.size + d.size ≤ 1048576) :
    Calls Try.prog 7 #[.string a, .string b, .string c, .string d] w fun e w' => e = .returned (.bool true) ∧ w = w' := by
  go_enter Try.func7, Try.ntmps7
  go_wp2
  go_ret
  exact ⟨rfl, rfl⟩
set_option maxHeartbeats 400000 in
theorem guard7_no (a b c d : ByteArray) (w : World) (ha : a.size ≤ maxLen) (hb : b.size ≤ maxLen) (hc : c.size ≤ maxLen) (hd : d.size ≤ maxLen) (h : 1048576 < a.size + b.size + c.size + d.size) :
    Calls Try.prog 7 #[.string a, .string b, .string c, .string d] w fun e w' => e = .returned (.bool false) ∧ w = w' := by
  unfold maxLen at ha hb hc hd
  go_enter Try.func7, Try.ntmps7
  go_wp2
  all_goals
    go_ret
    exact ⟨rfl, rfl⟩

/-- a box of three cells -/
structure Box (w : World) (g : Nat) (x y z : Value) : Prop where
  lt : g < w.heap.size
  c0 : w.cell? ⟨g, 0, none⟩ = some x
  c1 : w.cell? ⟨g, 1, none⟩ = some y
  c2 : w.cell? ⟨g, 2, none⟩ = some z
theorem Box.kept {w w' : World} {g : Nat} {x y z : Value} (h : Box w g x y z) (k : Kept w w') : Box w' g x y z :=
  ⟨Nat.lt_of_lt_of_le h.lt k.1.size, (k.1.cell (p := ⟨g, 0, none⟩) h.lt).trans h.c0, (k.1.cell (p := ⟨g, 1, none⟩) h.lt).trans h.c1, (k.1.cell (p := ⟨g, 2, none⟩) h.lt).trans h.c2⟩
theorem Box.new (w : World) (x y z : Value) (t : TypeId) : Box (w.alloc (.cells #[x, y, z] t)) w.heap.size x y z :=
  ⟨by simp, by simp, by simp, by simp⟩

set_option maxHeartbeats 2000000 in
set_option maxRecDepth 100000 in
theorem chain_other (a b c d : ByteArray) (w : World) (hs : a.size + b.size + c.size + d.size ≤ 1048576)
    (hi : (a.toList == [105, 110, 115, 116, 97, 110, 99, 101]) = false) (hv : (a.toList == [115, 101, 114, 118, 101, 114]) = false) :
    Calls Try.prog 3 #[.string a, .string b, .string c, .string d] w fun e w' => e = .returned (.bool true) ∧ Grown w w' := by
  go_enter Try.func3, Try.ntmps3
  go_wp2_with (first | (go_at_call 7; refine (guard7_ok _ _ _ _ _ hs).mono ?_; rintro e w' ⟨rfl, rfl⟩) | (go_at_call 8; refine (entity_any _ _ _ _).mono ?_; rintro e w' ⟨rfl, rfl⟩))
  cases h : (a.toList == d.toList) with
  | true =>
    have HW : Hid (∀ wx, Calls Try.prog 9 #[.agg #[.string a, .string b, .string c], .string d] wx fun e w' => e = .returned (.tuple #[.agg #[.string a, .string b, .string c], .bool true]) ∧ Kept wx w') := zzwithin_of (within_self a b c d h)
    refine wp_loop_rounds 1 ?_
    rw [rounds_succ]
    go_wp2_with fail
    refine (HW.out _).mono ?_
    rintro e w1 ⟨rfl, hk⟩
    have B1 := (Box.new _ _ _ _ _).kept hk
    simp only [World.size_alloc] at B1
    have hk1 := (((((Kept.refl w).alloc _ _).alloc _ _).alloc _ _).alloc _ _).trans hk
    obtain ⟨z1, b10, b11, b12⟩ := B1
    clear hk
    go_wp2_with fail
    refine (same_self _ _ _ _).mono ?_
    rintro e w2 ⟨rfl, hk2⟩
    clear z1 b10 b11 b12
    go_wp2
    go_ret
    exact ⟨rfl, ((hk1.alloc _ _).trans hk2).2⟩
  | false =>
    cases ts : (d.toList == [115, 101, 114, 118, 101, 114]) with
    | true =>
      have HW : Hid (∀ wx, Calls Try.prog 9 #[.agg #[.string a, .string b, .string c], .string d] wx fun e w' => e = .returned (.tuple #[.agg #[.string { data := #[115, 101, 114, 118, 101, 114] }, .string { data := #[] }, .string { data := #[] }], .bool true]) ∧ Kept wx w') := zzwithin_of (within_server a b c d h ts)
      have rs : (([115, 101, 114, 118, 101, 114] : List UInt8) == d.toList) = true := by rw [← ts]; exact BEq.comm
      refine wp_loop_rounds 2 ?_
      rw [rounds_succ]
      go_wp2_with fail
      rw [rounds_succ]
      go_wp2_with fail
      refine (HW.out _).mono ?_
      rintro e w1 ⟨rfl, hk⟩
      have B1 := (Box.new _ _ _ _ _).kept hk
      simp only [World.size_alloc] at B1
      have hk1 := (((((Kept.refl w).alloc _ _).alloc _ _).alloc _ _).alloc _ _).trans hk
      obtain ⟨z1, b10, b11, b12⟩ := B1
      clear hk
      go_wp2_with fail
      refine (same_self _ _ _ _).mono ?_
      rintro e w2 ⟨rfl, hk2⟩
      clear z1 b10 b11 b12
      go_wp2
      go_ret
      exact ⟨rfl, ((hk1.alloc _ _).trans hk2).2⟩
    | false =>
      have rs : (([115, 101, 114, 118, 101, 114] : List UInt8) == d.toList) = false := by rw [← ts]; exact BEq.comm
      have HW : Hid (∀ wx, Calls Try.prog 9 #[.agg #[.string a, .string b, .string c], .string d] wx fun e w' => e = .returned (.tuple #[.agg #[.string { data := #[] }, .string { data := #[] }, .string { data := #[] }], .bool false]) ∧ Kept wx w') := zzwithin_of (within_none a b c d h ts (.inr hi))
      refine wp_loop_rounds 3 ?_
      rw [rounds_succ]
      go_wp2_with fail
      rw [rounds_succ]
      go_wp2_with fail
      rw [rounds_succ]
      go_wp2_with fail
      refine (HW.out _).mono ?_
      rintro e w1 ⟨rfl, hk⟩
      have B1 := (Box.new _ _ _ _ _).kept hk
      simp only [World.size_alloc] at B1
      have hk1 := (((((Kept.refl w).alloc _ _).alloc _ _).alloc _ _).alloc _ _).trans hk
      obtain ⟨z1, b10, b11, b12⟩ := B1
      clear hk
      go_wp2_with fail
      refine (same_self _ _ _ _).mono ?_
      rintro e w2 ⟨rfl, hk2⟩
      clear z1 b10 b11 b12
      go_wp2
      go_ret
      exact ⟨rfl, ((hk1.alloc _ _).trans hk2).2⟩

set_option maxHeartbeats 2000000 in
set_option maxRecDepth 100000 in
theorem chain_server (a b c d : ByteArray) (w : World) (hs : a.size + b.size + c.size + d.size ≤ 1048576)
    (hi : (a.toList == [105, 110, 115, 116, 97, 110, 99, 101]) = false) (hv : (a.toList == [115, 101, 114, 118, 101, 114]) = true) :
    Calls Try.prog 3 #[.string a, .string b, .string c, .string d] w fun e w' => e = .returned (.bool true) ∧ Grown w w' := by
  go_enter Try.func3, Try.ntmps3
  go_wp2_with (first | (go_at_call 7; refine (guard7_ok _ _ _ _ _ hs).mono ?_; rintro e w' ⟨rfl, rfl⟩) | (go_at_call 8; refine (entity_any _ _ _ _).mono ?_; rintro e w' ⟨rfl, rfl⟩))
  cases h : (a.toList == d.toList) with
  | true =>
    have HW : Hid (∀ wx, Calls Try.prog 9 #[.agg #[.string a, .string b, .string c], .string d] wx fun e w' => e = .returned (.tuple #[.agg #[.string a, .string b, .string c], .bool true]) ∧ Kept wx w') := zzwithin_of (within_self a b c d h)
    refine wp_loop_rounds 1 ?_
    rw [rounds_succ]
    go_wp2_with fail
    refine (HW.out _).mono ?_
    rintro e w1 ⟨rfl, hk⟩
    have B1 := (Box.new _ _ _ _ _).kept hk
    simp only [World.size_alloc] at B1
    have hk1 := (((((Kept.refl w).alloc _ _).alloc _ _).alloc _ _).alloc _ _).trans hk
    obtain ⟨z1, b10, b11, b12⟩ := B1
    clear hk
    go_wp2_with fail
    refine (same_self _ _ _ _).mono ?_
    rintro e w2 ⟨rfl, hk2⟩
    clear z1 b10 b11 b12
    go_wp2
    go_ret
    exact ⟨rfl, ((hk1.alloc _ _).trans hk2).2⟩
  | false =>
    have ts : (d.toList == [115, 101, 114, 118, 101, 114]) = false := by rw [← eq_of_beq hv, ← h]; exact BEq.comm
    have HW : Hid (∀ wx, Calls Try.prog 9 #[.agg #[.string a, .string b, .string c], .string d] wx fun e w' => e = .returned (.tuple #[.agg #[.string { data := #[] }, .string { data := #[] }, .string { data := #[] }], .bool false]) ∧ Kept wx w') := zzwithin_of (within_none a b c d h ts (.inr hi))
    refine wp_loop_rounds 2 ?_
    rw [rounds_succ]
    go_wp2_with fail
    rw [rounds_succ]
    go_wp2_with fail
    refine (HW.out _).mono ?_
    rintro e w1 ⟨rfl, hk⟩
    have B1 := (Box.new _ _ _ _ _).kept hk
    simp only [World.size_alloc] at B1
    have hk1 := (((((Kept.refl w).alloc _ _).alloc _ _).alloc _ _).alloc _ _).trans hk
    obtain ⟨z1, b10, b11, b12⟩ := B1
    clear hk
    go_wp2_with fail
    refine (same_self _ _ _ _).mono ?_
    rintro e w2 ⟨rfl, hk2⟩
    clear z1 b10 b11 b12
    go_wp2
    go_ret
    exact ⟨rfl, ((hk1.alloc _ _).trans hk2).2⟩

set_option maxHeartbeats 2000000 in
set_option maxRecDepth 100000 in
theorem chain_inst_empty (a b c d : ByteArray) (w : World) (hs : a.size + b.size + c.size + d.size ≤ 1048576)
    (hi : (a.toList == [105, 110, 115, 116, 97, 110, 99, 101]) = true) (hv : (a.toList == [115, 101, 114, 118, 101, 114]) = false) (hc : c.toList.isEmpty = true) :
    Calls Try.prog 3 #[.string a, .string b, .string c, .string d] w fun e w' => e = .returned (.bool true) ∧ Grown w w' := by
  have HP : Hid (projOf c = ({ data := #[100, 101, 102, 97, 117, 108, 116] } : ByteArray)) := by
    show _ = _
    unfold projOf; rw [hc]; rfl
  go_enter Try.func3, Try.ntmps3
  go_wp2_with (first | (go_at_call 7; refine (guard7_ok _ _ _ _ _ hs).mono ?_; rintro e w' ⟨rfl, rfl⟩) | (go_at_call 8; refine (entity_any _ _ _ _).mono ?_; rintro e w' ⟨rfl, rfl⟩))
  cases h : (a.toList == d.toList) with
  | true =>
    have HW : Hid (∀ wx, Calls Try.prog 9 #[.agg #[.string a, .string b, .string c], .string d] wx fun e w' => e = .returned (.tuple #[.agg #[.string a, .string b, .string c], .bool true]) ∧ Kept wx w') := zzwithin_of (within_self a b c d h)
    refine wp_loop_rounds 1 ?_
    rw [rounds_succ]
    go_wp2_with fail
    refine (HW.out _).mono ?_
    rintro e w1 ⟨rfl, hk⟩
    have B1 := (Box.new _ _ _ _ _).kept hk
    simp only [World.size_alloc] at B1
    have hk1 := (((((Kept.refl w).alloc _ _).alloc _ _).alloc _ _).alloc _ _).trans hk
    obtain ⟨z1, b10, b11, b12⟩ := B1
    clear hk
    go_wp2_with fail
    refine (same_self _ _ _ _).mono ?_
    rintro e w2 ⟨rfl, hk2⟩
    clear z1 b10 b11 b12
    go_wp2
    go_ret
    exact ⟨rfl, ((hk1.alloc _ _).trans hk2).2⟩
  | false =>
    cases ts : (d.toList == [115, 101, 114, 118, 101, 114]) with
    | true =>
      have HW : Hid (∀ wx, Calls Try.prog 9 #[.agg #[.string a, .string b, .string c], .string d] wx fun e w' => e = .returned (.tuple #[.agg #[.string { data := #[115, 101, 114, 118, 101, 114] }, .string { data := #[] }, .string { data := #[] }], .bool true]) ∧ Kept wx w') := zzwithin_of (within_server a b c d h ts)
      have rs : (([115, 101, 114, 118, 101, 114] : List UInt8) == d.toList) = true := by rw [← ts]; exact BEq.comm
      have rp : (([112, 114, 111, 106, 101, 99, 116] : List UInt8) == d.toList) = false := by rw [eq_of_beq ts]; rfl
      refine wp_loop_rounds 3 ?_
      rw [rounds_succ]
      go_wp2_with fail
      rw [rounds_succ]
      go_wp2_with fail
      rw [rounds_succ]
      go_wp2_with fail
      refine (HW.out _).mono ?_
      rintro e w1 ⟨rfl, hk⟩
      have B1 := (Box.new _ _ _ _ _).kept hk
      simp only [World.size_alloc] at B1
      have hk1 := (((((Kept.refl w).alloc _ _).alloc _ _).alloc _ _).alloc _ _).trans hk
      obtain ⟨z1, b10, b11, b12⟩ := B1
      clear hk
      go_wp2_with fail
      refine (same_self _ _ _ _).mono ?_
      rintro e w2 ⟨rfl, hk2⟩
      clear z1 b10 b11 b12
      go_wp2
      go_ret
      exact ⟨rfl, ((hk1.alloc _ _).trans hk2).2⟩
    | false =>
      have rs : (([115, 101, 114, 118, 101, 114] : List UInt8) == d.toList) = false := by rw [← ts]; exact BEq.comm
      cases tp : (d.toList == [112, 114, 111, 106, 101, 99, 116]) with
      | true =>
        have HW : Hid (∀ wx, Calls Try.prog 9 #[.agg #[.string a, .string b, .string c], .string d] wx fun e w' => e = .returned (.tuple #[.agg #[.string { data := #[112, 114, 111, 106, 101, 99, 116] }, .string { data := #[100, 101, 102, 97, 117, 108, 116] }, .string { data := #[] }], .bool true]) ∧ Kept wx w') := by
          have := zzwithin_of (within_project a b c d h ts tp hi)
          rw [HP.out] at this
          exact this
        have rp : (([112, 114, 111, 106, 101, 99, 116] : List UInt8) == d.toList) = true := by rw [← tp]; exact BEq.comm
        refine wp_loop_rounds 2 ?_
        rw [rounds_succ]
        go_wp2_with fail
        rw [rounds_succ]
        go_wp2_with fail
        refine (HW.out _).mono ?_
        rintro e w1 ⟨rfl, hk⟩
        have B1 := (Box.new _ _ _ _ _).kept hk
        simp only [World.size_alloc] at B1
        have hk1 := (((((Kept.refl w).alloc _ _).alloc _ _).alloc _ _).alloc _ _).trans hk
        obtain ⟨z1, b10, b11, b12⟩ := B1
        clear hk
        go_wp2_with fail
        refine (same_self _ _ _ _).mono ?_
        rintro e w2 ⟨rfl, hk2⟩
        clear z1 b10 b11 b12
        go_wp2
        go_ret
        exact ⟨rfl, ((hk1.alloc _ _).trans hk2).2⟩
      | false =>
        have HW : Hid (∀ wx, Calls Try.prog 9 #[.agg #[.string a, .string b, .string c], .string d] wx fun e w' => e = .returned (.tuple #[.agg #[.string { data := #[] }, .string { data := #[] }, .string { data := #[] }], .bool false]) ∧ Kept wx w') := zzwithin_of (within_none a b c d h ts (.inl tp))
        have rp : (([112, 114, 111, 106, 101, 99, 116] : List UInt8) == d.toList) = false := by rw [← tp]; exact BEq.comm
        refine wp_loop_rounds 4 ?_
        rw [rounds_succ]
        go_wp2_with fail
        rw [rounds_succ]
        go_wp2_with fail
        rw [rounds_succ]
        go_wp2_with fail
        rw [rounds_succ]
        go_wp2_with fail
        refine (HW.out _).mono ?_
        rintro e w1 ⟨rfl, hk⟩
        have B1 := (Box.new _ _ _ _ _).kept hk
        simp only [World.size_alloc] at B1
        have hk1 := (((((Kept.refl w).alloc _ _).alloc _ _).alloc _ _).alloc _ _).trans hk
        obtain ⟨z1, b10, b11, b12⟩ := B1
        clear hk
        go_wp2_with fail
        refine (same_self _ _ _ _).mono ?_
        rintro e w2 ⟨rfl, hk2⟩
        clear z1 b10 b11 b12
        go_wp2
        go_ret
        exact ⟨rfl, ((hk1.alloc _ _).trans hk2).2⟩

set_option maxHeartbeats 2000000 in
set_option maxRecDepth 100000 in
theorem chain_inst (a b c d : ByteArray) (w : World) (hs : a.size + b.size + c.size + d.size ≤ 1048576)
    (hi : (a.toList == [105, 110, 115, 116, 97, 110, 99, 101]) = true) (hv : (a.toList == [115, 101, 114, 118, 101, 114]) = false) (hc : c.toList.isEmpty = false) :
    Calls Try.prog 3 #[.string a, .string b, .string c, .string d] w fun e w' => e = .returned (.bool true) ∧ Grown w w' := by
  have HP : Hid (projOf c = c) := by
    show _ = _
    unfold projOf; rw [hc]; rfl
  go_enter Try.func3, Try.ntmps3
  go_wp2_with (first | (go_at_call 7; refine (guard7_ok _ _ _ _ _ hs).mono ?_; rintro e w' ⟨rfl, rfl⟩) | (go_at_call 8; refine (entity_any _ _ _ _).mono ?_; rintro e w' ⟨rfl, rfl⟩))
  cases h : (a.toList == d.toList) with
  | true =>
    have HW : Hid (∀ wx, Calls Try.prog 9 #[.agg #[.string a, .string b, .string c], .string d] wx fun e w' => e = .returned (.tuple #[.agg #[.string a, .string b, .string c], .bool true]) ∧ Kept wx w') := zzwithin_of (within_self a b c d h)
    refine wp_loop_rounds 1 ?_
    rw [rounds_succ]
    go_wp2_with fail
    refine (HW.out _).mono ?_
    rintro e w1 ⟨rfl, hk⟩
    have B1 := (Box.new _ _ _ _ _).kept hk
    simp only [World.size_alloc] at B1
    have hk1 := (((((Kept.refl w).alloc _ _).alloc _ _).alloc _ _).alloc _ _).trans hk
    obtain ⟨z1, b10, b11, b12⟩ := B1
    clear hk
    go_wp2_with fail
    refine (same_self _ _ _ _).mono ?_
    rintro e w2 ⟨rfl, hk2⟩
    clear z1 b10 b11 b12
    go_wp2
    go_ret
    exact ⟨rfl, ((hk1.alloc _ _).trans hk2).2⟩
  | false =>
    cases ts : (d.toList == [115, 101, 114, 118, 101, 114]) with
    | true =>
      have HW : Hid (∀ wx, Calls Try.prog 9 #[.agg #[.string a, .string b, .string c], .string d] wx fun e w' => e = .returned (.tuple #[.agg #[.string { data := #[115, 101, 114, 118, 101, 114] }, .string { data := #[] }, .string { data := #[] }], .bool true]) ∧ Kept wx w') := zzwithin_of (within_server a b c d h ts)
      have rs : (([115, 101, 114, 118, 101, 114] : List UInt8) == d.toList) = true := by rw [← ts]; exact BEq.comm
      have rp : (([112, 114, 111, 106, 101, 99, 116] : List UInt8) == d.toList) = false := by rw [eq_of_beq ts]; rfl
      refine wp_loop_rounds 3 ?_
      rw [rounds_succ]
      go_wp2_with fail
      rw [rounds_succ]
      go_wp2_with fail
      rw [rounds_succ]
      go_wp2_with fail
      refine (HW.out _).mono ?_
      rintro e w1 ⟨rfl, hk⟩
      have B1 := (Box.new _ _ _ _ _).kept hk
      simp only [World.size_alloc] at B1
      have hk1 := (((((Kept.refl w).alloc _ _).alloc _ _).alloc _ _).alloc _ _).trans hk
      obtain ⟨z1, b10, b11, b12⟩ := B1
      clear hk
      go_wp2_with fail
      refine (same_self _ _ _ _).mono ?_
      rintro e w2 ⟨rfl, hk2⟩
      clear z1 b10 b11 b12
      go_wp2
      go_ret
      exact ⟨rfl, ((hk1.alloc _ _).trans hk2).2⟩
    | false =>
      have rs : (([115, 101, 114, 118, 101, 114] : List UInt8) == d.toList) = false := by rw [← ts]; exact BEq.comm
      cases tp : (d.toList == [112, 114, 111, 106, 101, 99, 116]) with
      | true =>
        have HW : Hid (∀ wx, Calls Try.prog 9 #[.agg #[.string a, .string b, .string c], .string d] wx fun e w' => e = .returned (.tuple #[.agg #[.string { data := #[112, 114, 111, 106, 101, 99, 116] }, .string c, .string { data := #[] }], .bool true]) ∧ Kept wx w') := by
          have := zzwithin_of (within_project a b c d h ts tp hi)
          rw [HP.out] at this
          exact this
        have rp : (([112, 114, 111, 106, 101, 99, 116] : List UInt8) == d.toList) = true := by rw [← tp]; exact BEq.comm
        refine wp_loop_rounds 2 ?_
        rw [rounds_succ]
        go_wp2_with fail
        rw [rounds_succ]
        go_wp2_with fail
        refine (HW.out _).mono ?_
        rintro e w1 ⟨rfl, hk⟩
        have B1 := (Box.new _ _ _ _ _).kept hk
        simp only [World.size_alloc] at B1
        have hk1 := (((((Kept.refl w).alloc _ _).alloc _ _).alloc _ _).alloc _ _).trans hk
        obtain ⟨z1, b10, b11, b12⟩ := B1
        clear hk
        go_wp2_with fail
        refine (same_self _ _ _ _).mono ?_
        rintro e w2 ⟨rfl, hk2⟩
        clear z1 b10 b11 b12
        go_wp2
        go_ret
        exact ⟨rfl, ((hk1.alloc _ _).trans hk2).2⟩
      | false =>
        have HW : Hid (∀ wx, Calls Try.prog 9 #[.agg #[.string a, .string b, .string c], .string d] wx fun e w' => e = .returned (.tuple #[.agg #[.string { data := #[] }, .string { data := #[] }, .string { data := #[] }], .bool false]) ∧ Kept wx w') := zzwithin_of (within_none a b c d h ts (.inl tp))
        have rp : (([112, 114, 111, 106, 101, 99, 116] : List UInt8) == d.toList) = false := by rw [← tp]; exact BEq.comm
        refine wp_loop_rounds 4 ?_
        rw [rounds_succ]
        go_wp2_with fail
        rw [rounds_succ]
        go_wp2_with fail
        rw [rounds_succ]
        go_wp2_with fail
        rw [rounds_succ]
        go_wp2_with fail
        refine (HW.out _).mono ?_
        rintro e w1 ⟨rfl, hk⟩
        have B1 := (Box.new _ _ _ _ _).kept hk
        simp only [World.size_alloc] at B1
        have hk1 := (((((Kept.refl w).alloc _ _).alloc _ _).alloc _ _).alloc _ _).trans hk
        obtain ⟨z1, b10, b11, b12⟩ := B1
        clear hk
        go_wp2_with fail
        refine (same_self _ _ _ _).mono ?_
        rintro e w2 ⟨rfl, hk2⟩
        clear z1 b10 b11 b12
        go_wp2
        go_ret
        exact ⟨rfl, ((hk1.alloc _ _).trans hk2).2⟩

theorem chain (a b c d : ByteArray) (ha : a.size ≤ maxLen) (hb : b.size ≤ maxLen) (hc : c.size ≤ maxLen) (hd : d.size ≤ maxLen) (w : World) :
    Calls Try.prog 3 #[.string a, .string b, .string c, .string d] w fun e w' => e = .returned (.bool true) ∧ Grown w w' := by
  by_cases hs : a.size + b.size + c.size + d.size ≤ 1048576
  · cases h1 : (a.toList == [105, 110, 115, 116, 97, 110, 99, 101]) with
    | true =>
      have h2 : (a.toList == [115, 101, 114, 118, 101, 114]) = false := by rw [eq_of_beq h1]; rfl
      cases h3 : c.toList.isEmpty with
      | true => exact chain_inst_empty a b c d w hs h1 h2 h3
      | false => exact chain_inst a b c d w hs h1 h2 h3
    | false =>
      cases h2 : (a.toList == [115, 101, 114, 118, 101, 114]) with
      | true => exact chain_server a b c d w hs h1 h2
      | false => exact chain_other a b c d w hs h1 h2
  · have hs' : 1048576 < a.size + b.size + c.size + d.size := by omega
    go_enter Try.func3, Try.ntmps3
    go_wp2_with (go_at_call 7; refine (guard7_no _ _ _ _ _ ha hb hc hd hs').mono ?_; rintro e w' ⟨rfl, rfl⟩)
    go_ret
    exact ⟨rfl, Grown.refl _⟩
end Go.Proofs.Qxb6602300a.Wi
