/-
  Seat b6602300a: the law FnWithinHolderIsOfTypeAndFixed.
-/
import Derived.Test.Qxb6602300aWithin
namespace Go.Proofs.Qxb6602300a.Wi
open Go.ChangeShapes Go.WideShapes Go.ChangeAt Go.RowKit

theorem guard12_ok (a b c d : ByteArray) (w : World) (h : a.size + b.size + c.size + d.size ≤ 1048576) :
    Calls Try.prog 12 #[.string a, .string b, .string c, .string d] w fun e w' => e = .returned (.bool true) ∧ w = w' := by
  go_enter Try.func12, Try.ntmps12
  go_wp2
  go_ret
  exact ⟨rfl, rfl⟩
set_option maxHeartbeats 400000 in
theorem guard12_no (a b c d : ByteArray) (w : World) (ha : a.size ≤ maxLen) (hb : b.size ≤ maxLen) (hc : c.size ≤ maxLen) (hd : d.size ≤ maxLen) (h : 1048576 < a.size + b.size + c.size + d.size) :
    Calls Try.prog 12 #[.string a, .string b, .string c, .string d] w fun e w' => e = .returned (.bool false) ∧ w = w' := by
  unfold maxLen at ha hb hc hd
  go_enter Try.func12, Try.ntmps12
  go_wp2
  all_goals
    go_ret
    exact ⟨rfl, rfl⟩

set_option maxHeartbeats 1000000 in
set_option maxRecDepth 100000 in
theorem holder_none (a b c d : ByteArray) (w : World) (hs : a.size + b.size + c.size + d.size ≤ 1048576)
    (h : (a.toList == d.toList) = false) (ht : (d.toList == [115, 101, 114, 118, 101, 114]) = false)
    (hp : (d.toList == [112, 114, 111, 106, 101, 99, 116]) = false ∨ (a.toList == [105, 110, 115, 116, 97, 110, 99, 101]) = false) :
    Calls Try.prog 5 #[.string a, .string b, .string c, .string d] w fun e w' => e = .returned (.bool true) ∧ Grown w w' := by
  have HW : Hid (∀ wx, Calls Try.prog 9 #[.agg #[.string a, .string b, .string c], .string d] wx fun e w' => e = .returned (.tuple #[.agg #[.string { data := #[] }, .string { data := #[] }, .string { data := #[] }], .bool false]) ∧ Kept wx w') := zzwithin_of (within_none a b c d h ht hp)
  have hr : (d.toList == a.toList) = false := by rw [← h]; exact BEq.comm
  clear hp
  go_enter Try.func5, Try.ntmps5
  go_wp2_with (first | (go_at_call 12; refine (guard12_ok _ _ _ _ _ hs).mono ?_; rintro e w' ⟨rfl, rfl⟩) | (go_at_call 8; refine (entity_any _ _ _ _).mono ?_; rintro e w' ⟨rfl, rfl⟩))
  refine (HW.out _).mono ?_
  rintro e w1 ⟨rfl, hk⟩
  obtain ⟨hc, hf⟩ := kept_cell hk
  go_wp2_with fail
  refine (same_self _ _ _ _).mono ?_
  rintro e w2 ⟨rfl, hk2⟩
  clear hc hf
  go_wp2
  go_ret
  exact ⟨rfl, (((((Kept.refl w).alloc _ _).alloc _ _).trans hk).alloc _ _ |>.trans hk2).2⟩

/-- a box of three cells -/
structure Box (w : World) (g : Nat) (x y z : Value) : Prop where
  lt : g < w.heap.size
  c0 : w.cell? ⟨g, 0, none⟩ = some x
  c1 : w.cell? ⟨g, 1, none⟩ = some y
  c2 : w.cell? ⟨g, 2, none⟩ = some z
theorem Box.kept {w w' : World} {g : Nat} {x y z : Value} (h : Box w g x y z) (k : Kept w w') : Box w' g x y z :=
  ⟨Nat.lt_of_lt_of_le h.lt k.1.size, (k.1.cell (p := ⟨g, 0, none⟩) h.lt).trans h.c0, (k.1.cell (p := ⟨g, 1, none⟩) h.lt).trans h.c1, (k.1.cell (p := ⟨g, 2, none⟩) h.lt).trans h.c2⟩
theorem Box.new (w : World) (x y z : Value) (t : TypeId) : Box (w.alloc (.cells #[x, y, z] t)) w.heap.size x y z :=
  ⟨by simp, by simp, by simp, by simp⟩

-- a holder (hy, hn, hp) of type d is found; asked again for d it answers itself; asked for the server it answers one of type server
set_option maxHeartbeats 1000000 in
set_option maxRecDepth 100000 in
theorem holder_some (a b c d : ByteArray) (w : World) (hs : a.size + b.size + c.size + d.size ≤ 1048576) (hy hn hp sy sn sp : ByteArray)
    (H1 : ∀ wx, Calls Try.prog 9 #[.agg #[.string a, .string b, .string c], .string d] wx fun e w' => e = .returned (.tuple #[.agg #[.string hy, .string hn, .string hp], .bool true]) ∧ Kept wx w')
    (H2 : ∀ wx, Calls Try.prog 9 #[.agg #[.string hy, .string hn, .string hp], .string d] wx fun e w' => e = .returned (.tuple #[.agg #[.string hy, .string hn, .string hp], .bool true]) ∧ Kept wx w')
    (H3 : ∀ wx, Calls Try.prog 9 #[.agg #[.string hy, .string hn, .string hp], .string { data := #[115, 101, 114, 118, 101, 114] }] wx fun e w' => e = .returned (.tuple #[.agg #[.string sy, .string sn, .string sp], .bool true]) ∧ Kept wx w')
    (e1 : (hy.toList == d.toList) = true) (e2 : (sy.toList == [115, 101, 114, 118, 101, 114]) = true) :
    Calls Try.prog 5 #[.string a, .string b, .string c, .string d] w fun e w' => e = .returned (.bool true) ∧ Grown w w' := by
  have K1 := (show Hid _ from H1)
  have K2 := (show Hid _ from H2)
  have K3 := (show Hid _ from H3)
  clear H1 H2 H3
  go_enter Try.func5, Try.ntmps5
  go_wp2_with (first | (go_at_call 12; refine (guard12_ok _ _ _ _ _ hs).mono ?_; rintro e w' ⟨rfl, rfl⟩) | (go_at_call 8; refine (entity_any _ _ _ _).mono ?_; rintro e w' ⟨rfl, rfl⟩))
  refine (K1.out _).mono ?_
  rintro e w1 ⟨rfl, hk⟩
  have hk1 := (((Kept.refl w).alloc _ _).alloc _ _).trans hk
  clear hk
  go_wp2_with fail
  refine (K2.out _).mono ?_
  rintro e w2 ⟨rfl, hk⟩
  have B2 := (Box.new w1 _ _ _ _).kept hk
  have hk2 := (hk1.alloc _ _).trans hk
  obtain ⟨z2, b20, b21, b22⟩ := B2
  clear hk hk1
  go_wp2_with fail
  refine (same_self _ _ _ _).mono ?_
  rintro e w3 ⟨rfl, hk⟩
  have B3 := (Box.kept ⟨z2, b20, b21, b22⟩ ((Kept.refl w2).alloc _ _)).kept hk
  have hk3 := (hk2.alloc _ _).trans hk
  clear z2 b20 b21 b22 hk hk2
  generalize w1.heap.size = g1 at *
  generalize w2.heap.size = g2 at *
  obtain ⟨z3, b30, b31, b32⟩ := B3
  go_wp2_with fail
  refine (K3.out _).mono ?_
  rintro e w4 ⟨rfl, hk⟩
  have hk4 := hk3.trans hk
  clear z3 b30 b31 b32 hk hk3
  go_wp2
  go_ret
  exact ⟨rfl, (hk4.alloc _ _).2⟩

theorem srv_list : ({ data := #[115, 101, 114, 118, 101, 114] } : ByteArray).toList = [115, 101, 114, 118, 101, 114] := by decide +kernel
theorem prj_list : ({ data := #[112, 114, 111, 106, 101, 99, 116] } : ByteArray).toList = [112, 114, 111, 106, 101, 99, 116] := by decide +kernel

theorem holder (a b c d : ByteArray) (ha : a.size ≤ maxLen) (hb : b.size ≤ maxLen) (hc : c.size ≤ maxLen) (hd : d.size ≤ maxLen) (w : World) :
    Calls Try.prog 5 #[.string a, .string b, .string c, .string d] w fun e w' => e = .returned (.bool true) ∧ Grown w w' := by
  by_cases hs : a.size + b.size + c.size + d.size ≤ 1048576
  · cases h1 : (a.toList == d.toList) with
    | true =>
      cases h2 : (a.toList == [115, 101, 114, 118, 101, 114]) with
      | true => exact holder_some a b c d w hs a b c a b c (zzwithin_of (within_self a b c d h1)) (zzwithin_of (within_self a b c d h1)) (zzwithin_of (within_self a b c _ (by rw [srv_list]; exact h2))) h1 h2
      | false => exact holder_some a b c d w hs a b c _ _ _ (zzwithin_of (within_self a b c d h1)) (zzwithin_of (within_self a b c d h1)) (zzwithin_of (within_server a b c _ (by rw [srv_list]; exact h2) (by rw [srv_list]; rfl))) h1 (by rw [srv_list]; rfl)
    | false =>
      cases h2 : (d.toList == [115, 101, 114, 118, 101, 114]) with
      | true =>
        have e : (({ data := #[115, 101, 114, 118, 101, 114] } : ByteArray).toList == d.toList) = true := by rw [srv_list, ← h2]; exact BEq.comm
        exact holder_some a b c d w hs _ _ _ _ _ _ (zzwithin_of (within_server a b c d h1 h2)) (zzwithin_of (within_self _ _ _ d e)) (zzwithin_of (within_self _ _ _ _ (by rw [srv_list]; rfl))) e (by rw [srv_list]; rfl)
      | false =>
        cases h3 : (d.toList == [112, 114, 111, 106, 101, 99, 116]) with
        | false => exact holder_none a b c d w hs h1 h2 (.inl h3)
        | true =>
          cases h4 : (a.toList == [105, 110, 115, 116, 97, 110, 99, 101]) with
          | false => exact holder_none a b c d w hs h1 h2 (.inr h4)
          | true =>
            have e : (({ data := #[112, 114, 111, 106, 101, 99, 116] } : ByteArray).toList == d.toList) = true := by rw [prj_list, ← h3]; exact BEq.comm
            exact holder_some a b c d w hs _ _ _ _ _ _ (zzwithin_of (within_project a b c d h1 h2 h3 h4)) (zzwithin_of (within_self _ _ _ d e)) (zzwithin_of (within_server _ _ _ _ (by rw [srv_list, prj_list]; rfl) (by rw [srv_list]; rfl))) e (by rw [srv_list]; rfl)
  · have hs' : 1048576 < a.size + b.size + c.size + d.size := by omega
    go_enter Try.func5, Try.ntmps5
    go_wp2_with (go_at_call 12; refine (guard12_no _ _ _ _ _ ha hb hc hd hs').mono ?_; rintro e w' ⟨rfl, rfl⟩)
    go_ret
    exact ⟨rfl, Grown.refl _⟩
end Go.Proofs.Qxb6602300a.Wi
