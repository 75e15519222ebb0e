/-
  Seat b6602269a: the walks of digitsEnd, of the closure in numberEnd, of numberEnd.
-/
import Derived.Test.Qxb6602269aRows
import Derived.Test.Qxb6602269aPlain
import Derived.WalkKit
import Derived.ProofKit
import Derived.OpenShut
import Derived.ShutString
import Derived.Deep.DeepCutAuto
namespace Go.Proofs.Qxb6602269a.Num
open Go.ChangeShapes Go.WideShapes Go.ChangeAt Go.RowKit

theorem ret_int {k : IntKind} {a b : Int} (h : a = b) : Ending.returned (.int k a) = .returned (.int k b) := by rw [h]
theorem ret_bool {a b : Bool} (h : a = b) : Ending.returned (.bool a) = .returned (.bool b) := by rw [h]

theorem at_s (s : ByteArray) (k : Nat) (h : k < s.size) : at_ s.data.toList k = s[k].toNat := by
  rw [at_lt (by simpa using h)]; rfl
theorem at_out (s : ByteArray) (k : Nat) (h : ¬ k < s.size) : at_ s.data.toList k = 256 := at_ge (by simp; omega)
theorem dig_s (s : ByteArray) (k : Nat) (h : k < s.size) : dig (at_ s.data.toList k) = decide (48 ≤ (s[k].toNat : Int) ∧ (s[k].toNat : Int) ≤ 57) := by
  rw [at_s s k h, Bool.eq_iff_iff]; simp [dig]; omega

set_option maxHeartbeats 400000 in
theorem digits_any (s : ByteArray) (p : Nat) (w : World) (hs : s.size ≤ 1048576) :
    Calls Try.prog 20 #[.string s, .int .i64 p] w fun e w' => e = .returned (.int .i64 (dEnd s.data.toList p)) ∧ w' = w := by
  go_enter Try.func20, Try.ntmps20
  go_wp2
  go_loop [1] (fun i => ∃ k : Nat, i = .int .i64 k ∧ dEnd s.data.toList k = dEnd s.data.toList p) (fun i => s.size - (intOf i).toNat)
  case atStart => exact ⟨p, rfl, rfl⟩
  case round =>
    obtain ⟨k, rfl, hd⟩ := hrel
    have Hd : Hid (dEnd s.data.toList k = dEnd s.data.toList p) := hd
    clear hd
    by_cases hlt : k < s.size
    · by_cases hg : 48 ≤ (s[k].toNat : Int) ∧ (s[k].toNat : Int) ≤ 57
      · have H1 : Hid (dEnd s.data.toList (k + 1) = dEnd s.data.toList p) := by
          show _ = _
          rw [← Hd.out, dEnd_yes (p := k)]
          rw [dig_s s k hlt]; simp [hg]
        obtain ⟨g1, g2⟩ := hg
        go_wp2
        go_round
        case rel => exact ⟨k + 1, by go_num, H1.out⟩
        case measure => simp [intOf]; omega
      · have H1 : Hid (dEnd s.data.toList p = k) := by
          show _ = _
          rw [← Hd.out, dEnd_no (p := k)]
          rw [dig_s s k hlt]; simpa using hg
        by_cases g1 : 48 ≤ (s[k].toNat : Int)
        · have g2 : 57 < (s[k].toNat : Int) := by omega
          clear hg
          go_wp2
          go_ret
          exact ⟨ret_int (by rw [H1.out]), rfl⟩
        · clear hg
          go_wp2
          go_ret
          exact ⟨ret_int (by rw [H1.out]), rfl⟩
    · have H1 : Hid (dEnd s.data.toList p = k) := by
        show _ = _
        rw [← Hd.out, dEnd_no (p := k)]
        rw [at_out s k hlt]; decide
      go_wp2
      go_ret
      exact ⟨ret_int (by rw [H1.out]), rfl⟩

set_option maxHeartbeats 400000 in
theorem closure_any (s : ByteArray) (p : Nat) (w : World) (hs : s.size ≤ 1048576) :
    Calls Try.prog 19 #[.pointer (some ⟨w.heap.size + 1, 0, none⟩), .pointer (some ⟨w.heap.size, 0, none⟩)] ((w.alloc (.cells #[.string s] 9)).alloc (.cells #[.int .i64 p] 3)) fun e w' =>
      e = .returned (.bool (decide (p < dEnd s.data.toList p))) ∧ w' = (w.alloc (.cells #[.string s] 9)).alloc (.cells #[.int .i64 (dEnd s.data.toList p : Nat)] 3) := by
  have Hq := digits_any s p
  generalize dEnd s.data.toList p = q at *
  go_enter Try.func19, Try.ntmps19
  go_wp2_with (go_at_call 20; refine (Hq _ hs).mono ?_; rintro e w' ⟨rfl, rfl⟩)
  go_ret
  exact ⟨rfl, rfl⟩

/-! ### the closure's contract, its two answers apart, its number under whatever name -/
theorem closure_yes (s : ByteArray) (x : Int) (p : Nat) (hx : x = p) (w : World) (hs : s.size ≤ 1048576) (h : p < dEnd s.data.toList p) :
    Calls Try.prog 19 #[.pointer (some ⟨w.heap.size + 1, 0, none⟩), .pointer (some ⟨w.heap.size, 0, none⟩)] ((w.alloc (.cells #[.string s] 9)).alloc (.cells #[.int .i64 x] 3)) fun e w' =>
      e = .returned (.bool true) ∧ w' = (w.alloc (.cells #[.string s] 9)).alloc (.cells #[.int .i64 (dEnd s.data.toList p : Nat)] 3) := by
  subst hx
  exact (closure_any s p w hs).mono fun e w' ⟨he, hw⟩ => ⟨by rw [he, decide_eq_true h], hw⟩
theorem closure_no (s : ByteArray) (x : Int) (p : Nat) (hx : x = p) (w : World) (hs : s.size ≤ 1048576) (h : ¬ p < dEnd s.data.toList p) :
    Calls Try.prog 19 #[.pointer (some ⟨w.heap.size + 1, 0, none⟩), .pointer (some ⟨w.heap.size, 0, none⟩)] ((w.alloc (.cells #[.string s] 9)).alloc (.cells #[.int .i64 x] 3)) fun e w' =>
      e = .returned (.bool false) ∧ w' = (w.alloc (.cells #[.string s] 9)).alloc (.cells #[.int .i64 (dEnd s.data.toList p : Nat)] 3) := by
  subst hx
  exact (closure_any s p w hs).mono fun e w' ⟨he, hw⟩ => ⟨by rw [he, decide_eq_false h], hw⟩

/-! ### numberEnd's tests as plain Booleans -/
def tst (s : ByteArray) (p c : Nat) : Bool := at_ s.data.toList p == c
def tstE (s : ByteArray) (p : Nat) : Bool := tst s p 101 || tst s p 69
def tstS (s : ByteArray) (p : Nat) : Bool := tst s p 43 || tst s p 45
theorem tst_in (s : ByteArray) (p c : Nat) (h : p < s.size) : ((s[p].toNat : Int) == (c : Int)) = tst s p c := by
  unfold tst; rw [at_s s p h, Bool.eq_iff_iff, beq_iff_eq, beq_iff_eq]; omega
theorem tst_out (s : ByteArray) (p c : Nat) (h : ¬ p < s.size) (hc : c < 256) : tst s p c = false := by
  unfold tst; rw [at_out s p h, beq_eq_false_iff_ne]; omega
theorem tst_true {s : ByteArray} {p c : Nat} (h : tst s p c = true) : at_ s.data.toList p = c := by
  unfold tst at h; simpa using h
theorem tst_false {s : ByteArray} {p c : Nat} (h : tst s p c = false) : ¬ at_ s.data.toList p = c := by
  unfold tst at h; simpa using h
theorem tst_lt {s : ByteArray} {p c : Nat} (h : tst s p c = true) (hc : c < 256) : p < s.size := by
  by_cases g : p < s.size
  · exact g
  · rw [tst_out s p c g hc] at h; cases h
theorem tstE_true {s : ByteArray} {p : Nat} (h : tstE s p = true) : p < s.size ∧ (at_ s.data.toList p = 101 ∨ at_ s.data.toList p = 69) := by
  unfold tstE at h
  rw [Bool.or_eq_true] at h
  rcases h with h | h
  · exact ⟨tst_lt h (by omega), Or.inl (tst_true h)⟩
  · exact ⟨tst_lt h (by omega), Or.inr (tst_true h)⟩
theorem tstE_false {s : ByteArray} {p : Nat} (h : tstE s p = false) : ¬ (at_ s.data.toList p = 101 ∨ at_ s.data.toList p = 69) := by
  unfold tstE at h
  rw [Bool.or_eq_false_iff] at h
  have := tst_false h.1
  have := tst_false h.2
  omega
theorem tstS_true {s : ByteArray} {p : Nat} (h : tstS s p = true) : p < s.size ∧ (at_ s.data.toList p = 43 ∨ at_ s.data.toList p = 45) := by
  unfold tstS at h
  rw [Bool.or_eq_true] at h
  rcases h with h | h
  · exact ⟨tst_lt h (by omega), Or.inl (tst_true h)⟩
  · exact ⟨tst_lt h (by omega), Or.inr (tst_true h)⟩
theorem tstS_false {s : ByteArray} {p : Nat} (h : tstS s p = false) : ¬ (at_ s.data.toList p = 43 ∨ at_ s.data.toList p = 45) := by
  unfold tstS at h
  rw [Bool.or_eq_false_iff] at h
  have := tst_false h.1
  have := tst_false h.2
  omega
theorem dg_yes {l : List UInt8} {p : Nat} (h : p < dEnd l p) : dg l p = some (dEnd l p) := by unfold dg; rw [if_pos h]
theorem dg_none {l : List UInt8} {p : Nat} (h : ¬ p < dEnd l p) : dg l p = none := by unfold dg; rw [if_neg h]

/-! ### what numberEnd comes to, stage by stage -/
theorem sgn_yes {s : ByteArray} {p : Nat} (h : tst s p 45 = true) : sgn s.data.toList p = p + 1 := by unfold sgn; rw [if_pos (tst_true h)]
theorem sgn_no {s : ByteArray} {p : Nat} (h : tst s p 45 = false) : sgn s.data.toList p = p := by unfold sgn; rw [if_neg (tst_false h)]
theorem int_zero {s : ByteArray} {p : Nat} (h : tst s p 48 = true) : int_ s.data.toList p = some (p + 1) := by unfold int_; rw [if_pos (tst_true h)]
theorem int_dg {s : ByteArray} {p : Nat} (h : tst s p 48 = false) : int_ s.data.toList p = dg s.data.toList p := by unfold int_; rw [if_neg (tst_false h)]
theorem frac_dg {s : ByteArray} {p : Nat} (h : tst s p 46 = true) : frac s.data.toList p = dg s.data.toList (p + 1) := by unfold frac; rw [if_pos (tst_true h)]
theorem frac_no {s : ByteArray} {p : Nat} (h : tst s p 46 = false) : frac s.data.toList p = some p := by unfold frac; rw [if_neg (tst_false h)]
theorem esg_yes {s : ByteArray} {p : Nat} (h : tstS s p = true) : esg s.data.toList p = p + 1 := by unfold esg; rw [if_pos (tstS_true h).2]
theorem esg_no {s : ByteArray} {p : Nat} (h : tstS s p = false) : esg s.data.toList p = p := by unfold esg; rw [if_neg (tstS_false h)]
theorem exp_dg {s : ByteArray} {p : Nat} (h : tstE s p = true) : exp_ s.data.toList p = dg s.data.toList (esg s.data.toList (p + 1)) := by unfold exp_; rw [if_pos (tstE_true h).2]
theorem exp_no {s : ByteArray} {p : Nat} (h : tstE s p = false) : exp_ s.data.toList p = some p := by unfold exp_; rw [if_neg (tstE_false h)]
theorem num1 {l : List UInt8} {p p1 : Nat} (h1 : sgn l p = p1) (h2 : int_ l p1 = none) : end_ (num l p) = -1 := by
  unfold num; rw [h1, h2]; rfl
theorem num2 {l : List UInt8} {p p1 p2 : Nat} (h1 : sgn l p = p1) (h2 : int_ l p1 = some p2) (h3 : frac l p2 = none) : end_ (num l p) = -1 := by
  unfold num; rw [h1, h2]; simp only [Option.bind_some]; rw [h3]; rfl
theorem num3 {l : List UInt8} {p p1 p2 p3 : Nat} (h1 : sgn l p = p1) (h2 : int_ l p1 = some p2) (h3 : frac l p2 = some p3) : num l p = exp_ l p3 := by
  unfold num; rw [h1, h2]; simp only [Option.bind_some]; rw [h3]; rfl

set_option maxHeartbeats 1000000 in
set_option maxRecDepth 100000 in
theorem number_any (s : ByteArray) (p : Nat) (w : World) (hs : s.size ≤ 1048576) :
    Calls Try.prog 16 #[.string s, .int .i64 p] w fun e w' => e = .returned (.int .i64 (end_ (num s.data.toList p))) ∧ Grown w w' := by
  go_enter Try.func16, Try.ntmps16
  go_upto_region 2 with fail
  go_cut [16] from 6 to 16 (fun b wx => b = .bool (tst s p 45) ∧ wx = (w.alloc (.cells #[.string s] 9)).alloc (.cells #[.int .i64 p] 3))
  case first =>
    by_cases hlt : p < s.size
    · go_wp2_with fail
      go_meet
      case rel => exact ⟨congrArg Value.bool (tst_in s p 45 hlt), rfl⟩
    · go_wp2_with fail
      go_meet
      case rel => exact ⟨congrArg Value.bool (tst_out s p 45 hlt (by omega)).symm, rfl⟩
  case rest =>
  obtain ⟨rfl, rfl⟩ := hcut
  go_upto_if 16 with fail
  go_cut [] from 6 to 18 (fun wx => ∃ p1 : Nat, Hid (sgn s.data.toList p = p1) ∧ wx = (w.alloc (.cells #[.string s] 9)).alloc (.cells #[.int .i64 p1] 3))
  case first =>
    cases ht : tst s p 45 with
    | true =>
      have H := sgn_yes ht
      have hlt := tst_lt ht (by omega)
      have H1 : Hid (sgn s.data.toList p = p + 1) := H
      clear H
      go_wp2_with fail
      go_meet
      case rel => exact ⟨p + 1, H1, rfl⟩
    | false =>
      have H1 : Hid (sgn s.data.toList p = p) := sgn_no ht
      go_wp2_with fail
      go_meet
      case rel => exact ⟨p, H1, rfl⟩
  case rest =>
  obtain ⟨p1, H1, rfl⟩ := hcut
  go_upto_region 4 with fail
  go_cut [28] from 6 to 28 (fun b wx => b = .bool (tst s p1 48) ∧ wx = (w.alloc (.cells #[.string s] 9)).alloc (.cells #[.int .i64 p1] 3))
  case first =>
    by_cases hlt : p1 < s.size
    · go_wp2_with fail
      go_meet
      case rel => exact ⟨congrArg Value.bool (tst_in s p1 48 hlt), rfl⟩
    · go_wp2_with fail
      go_meet
      case rel => exact ⟨congrArg Value.bool (tst_out s p1 48 hlt (by omega)).symm, rfl⟩
  case rest =>
  obtain ⟨rfl, rfl⟩ := hcut
  go_upto_if 28 with fail
  go_cut [] from 6 to 33 (fun wx => ∃ p2 : Nat, Hid (int_ s.data.toList p1 = some p2) ∧ wx = (w.alloc (.cells #[.string s] 9)).alloc (.cells #[.int .i64 p2] 3))
  case first =>
    cases ht : tst s p1 48 with
    | true =>
      have hlt := tst_lt ht (by omega)
      have H2 : Hid (int_ s.data.toList p1 = some (p1 + 1)) := int_zero ht
      go_wp2_with fail
      go_meet
      case rel => exact ⟨p1 + 1, H2, rfl⟩
    | false =>
      by_cases hd : p1 < dEnd s.data.toList p1
      · have H2 : Hid (int_ s.data.toList p1 = some (dEnd s.data.toList p1)) := (int_dg ht).trans (dg_yes hd)
        have HC := closure_yes s p1 p1 rfl w hs hd
        clear hd
        generalize dEnd s.data.toList p1 = q at *
        go_wp2_with (go_at_call 19; refine HC.mono ?_; rintro e w' ⟨rfl, rfl⟩)
        go_meet
        case rel => exact ⟨q, H2, rfl⟩
      · have H2 : Hid (end_ (num s.data.toList p) = -1) := num1 H1.out ((int_dg ht).trans (dg_none hd))
        have HC := closure_no s p1 p1 rfl w hs hd
        clear hd
        generalize dEnd s.data.toList p1 = q at *
        go_wp2_with (go_at_call 19; refine HC.mono ?_; rintro e w' ⟨rfl, rfl⟩)
        go_ret
        exact ⟨ret_int H2.out.symm, ((Grown.refl _).alloc _ _).alloc _ _⟩
  case rest =>
  obtain ⟨p2, H2, rfl⟩ := hcut
  go_upto_region 8 with fail
  go_cut [43] from 6 to 43 (fun b wx => b = .bool (tst s p2 46) ∧ wx = (w.alloc (.cells #[.string s] 9)).alloc (.cells #[.int .i64 p2] 3))
  case first =>
    by_cases hlt : p2 < s.size
    · go_wp2_with fail
      go_meet
      case rel => exact ⟨congrArg Value.bool (tst_in s p2 46 hlt), rfl⟩
    · go_wp2_with fail
      go_meet
      case rel => exact ⟨congrArg Value.bool (tst_out s p2 46 hlt (by omega)).symm, rfl⟩
  case rest =>
  obtain ⟨rfl, rfl⟩ := hcut
  go_upto_if 43 with fail
  go_cut [] from 6 to 48 (fun wx => ∃ p3 : Nat, Hid (frac s.data.toList p2 = some p3) ∧ wx = (w.alloc (.cells #[.string s] 9)).alloc (.cells #[.int .i64 p3] 3))
  case first =>
    cases ht : tst s p2 46 with
    | true =>
      have hlt := tst_lt ht (by omega)
      by_cases hd : p2 + 1 < dEnd s.data.toList (p2 + 1)
      · have H3 : Hid (frac s.data.toList p2 = some (dEnd s.data.toList (p2 + 1))) := (frac_dg ht).trans (dg_yes hd)
        have HC := closure_yes s ((p2 : Int) + 1) (p2 + 1) (by omega) w hs hd
        clear hd
        generalize dEnd s.data.toList (p2 + 1) = q at *
        go_wp2_with (go_at_call 19; refine HC.mono ?_; rintro e w' ⟨rfl, rfl⟩)
        go_meet
        case rel => exact ⟨q, H3, rfl⟩
      · have H3 : Hid (end_ (num s.data.toList p) = -1) := num2 H1.out H2.out ((frac_dg ht).trans (dg_none hd))
        have HC := closure_no s ((p2 : Int) + 1) (p2 + 1) (by omega) w hs hd
        clear hd
        generalize dEnd s.data.toList (p2 + 1) = q at *
        go_wp2_with (go_at_call 19; refine HC.mono ?_; rintro e w' ⟨rfl, rfl⟩)
        go_ret
        exact ⟨ret_int H3.out.symm, ((Grown.refl _).alloc _ _).alloc _ _⟩
    | false =>
      have H3 : Hid (frac s.data.toList p2 = some p2) := frac_no ht
      go_wp2_with fail
      go_meet
      case rel => exact ⟨p2, H3, rfl⟩
  case rest =>
  obtain ⟨p3, H3, rfl⟩ := hcut
  have HN : Hid (num s.data.toList p = exp_ s.data.toList p3) := num3 H1.out H2.out H3.out
  clear H1 H2 H3
  go_upto_region 12 with fail
  go_cut [64] from 6 to 64 (fun b wx => b = .bool (tstE s p3) ∧ wx = (w.alloc (.cells #[.string s] 9)).alloc (.cells #[.int .i64 p3] 3))
  case first =>
    by_cases hlt : p3 < s.size
    · have e1 := tst_in s p3 101 hlt
      have e2 := tst_in s p3 69 hlt
      by_cases hc : s[p3].toNat = 101
      · have g1 : ((s[p3].toNat : Int) == 101) = true := by rw [beq_iff_eq]; omega
        have E : Hid (tstE s p3 = true) := by
          show tstE s p3 = true
          unfold tstE; rw [← e1]; simp [hc]
        clear e1 e2 hc
        go_wp2_with fail
        go_meet
        case rel => exact ⟨congrArg Value.bool E.out.symm, rfl⟩
      · have g1 : ((s[p3].toNat : Int) == 101) = false := by rw [beq_eq_false_iff_ne]; omega
        have E : Hid (tstE s p3 = ((s[p3].toNat : Int) == 69)) := by
          show tstE s p3 = ((s[p3].toNat : Int) == 69)
          unfold tstE; rw [← e1, show ((101 : Nat) : Int) = 101 from rfl, g1, Bool.false_or]; exact e2.symm
        clear e1 e2 hc
        go_wp2_with fail
        go_meet
        case rel => exact ⟨congrArg Value.bool E.out.symm, rfl⟩
    · have E : Hid (tstE s p3 = false) := by
        show tstE s p3 = false
        unfold tstE; rw [tst_out s p3 101 hlt (by omega), tst_out s p3 69 hlt (by omega)]; rfl
      go_wp2_with fail
      go_meet
      case rel => exact ⟨congrArg Value.bool E.out.symm, rfl⟩
  case rest =>
  obtain ⟨rfl, rfl⟩ := hcut
  cases ht : tstE s p3 with
  | false =>
    have H4 : Hid (end_ (num s.data.toList p) = p3) := by
      show end_ (num s.data.toList p) = p3
      rw [HN.out, exp_no ht]; rfl
    go_wp2_with fail
    go_ret
    exact ⟨ret_int H4.out.symm, ((Grown.refl _).alloc _ _).alloc _ _⟩
  | true =>
    have hlt := (tstE_true ht).1
    have H4 : Hid (exp_ s.data.toList p3 = dg s.data.toList (esg s.data.toList (p3 + 1))) := exp_dg ht
    go_upto_region 14 with fail
    obtain ⟨q, hq⟩ : ∃ q : Nat, q = p3 + 1 := ⟨_, rfl⟩
    rw [show (p3 : Int) + 1 = (q : Int) from by omega]
    have H5 : Hid (exp_ s.data.toList p3 = dg s.data.toList (esg s.data.toList q)) := by
      show _ = _
      rw [hq]; exact H4.out
    have hq1 : q ≤ s.size := by omega
    clear hq H4 ht hlt
    go_cut [82] from 6 to 82 (fun b wx => b = .bool (tstS s q) ∧ wx = (w.alloc (.cells #[.string s] 9)).alloc (.cells #[.int .i64 q] 3))
    case first =>
      by_cases hlt : q < s.size
      · have e1 := tst_in s q 43 hlt
        have e2 := tst_in s q 45 hlt
        by_cases hc : s[q].toNat = 43
        · have g1 : ((s[q].toNat : Int) == 43) = true := by rw [beq_iff_eq]; omega
          have E : Hid (tstS s q = true) := by
            show tstS s q = true
            unfold tstS; rw [← e1]; simp [hc]
          clear e1 e2 hc
          go_wp2_with fail
          go_meet
          case rel => exact ⟨congrArg Value.bool E.out.symm, rfl⟩
        · have g1 : ((s[q].toNat : Int) == 43) = false := by rw [beq_eq_false_iff_ne]; omega
          have E : Hid (tstS s q = ((s[q].toNat : Int) == 45)) := by
            show tstS s q = ((s[q].toNat : Int) == 45)
            unfold tstS; rw [← e1, show ((43 : Nat) : Int) = 43 from rfl, g1, Bool.false_or]; exact e2.symm
          clear e1 e2 hc
          go_wp2_with fail
          go_meet
          case rel => exact ⟨congrArg Value.bool E.out.symm, rfl⟩
      · have E : Hid (tstS s q = false) := by
          show tstS s q = false
          unfold tstS; rw [tst_out s q 43 hlt (by omega), tst_out s q 45 hlt (by omega)]; rfl
        go_wp2_with fail
        go_meet
        case rel => exact ⟨congrArg Value.bool E.out.symm, rfl⟩
    case rest =>
    obtain ⟨rfl, rfl⟩ := hcut
    go_upto_if 82 with fail
    go_cut [] from 6 to 84 (fun wx => ∃ q2 : Nat, Hid (exp_ s.data.toList p3 = dg s.data.toList q2) ∧ wx = (w.alloc (.cells #[.string s] 9)).alloc (.cells #[.int .i64 q2] 3))
    case first =>
      cases ht : tstS s q with
      | true =>
        have hlt := (tstS_true ht).1
        have H6 : Hid (exp_ s.data.toList p3 = dg s.data.toList (q + 1)) := by
          show _ = _
          rw [H5.out, esg_yes ht]
        go_wp2_with fail
        go_meet
        case rel => exact ⟨q + 1, H6, rfl⟩
      | false =>
        have H6 : Hid (exp_ s.data.toList p3 = dg s.data.toList q) := by
          show _ = _
          rw [H5.out, esg_no ht]
        go_wp2_with fail
        go_meet
        case rel => exact ⟨q, H6, rfl⟩
    case rest =>
    obtain ⟨q2, H6, rfl⟩ := hcut
    clear H5 hq1
    by_cases hd : q2 < dEnd s.data.toList q2
    · have H7 : Hid (end_ (num s.data.toList p) = (dEnd s.data.toList q2 : Nat)) := by
        show _ = _
        rw [HN.out, H6.out, dg_yes hd]; rfl
      have HC := closure_yes s q2 q2 rfl w hs hd
      clear hd H6 HN
      generalize dEnd s.data.toList q2 = r at *
      go_wp2_with (go_at_call 19; refine HC.mono ?_; rintro e w' ⟨rfl, rfl⟩)
      go_ret
      exact ⟨ret_int H7.out.symm, ((Grown.refl _).alloc _ _).alloc _ _⟩
    · have H7 : Hid (end_ (num s.data.toList p) = -1) := by
        show _ = _
        rw [HN.out, H6.out, dg_none hd]; rfl
      have HC := closure_no s q2 q2 rfl w hs hd
      clear hd H6 HN
      generalize dEnd s.data.toList q2 = r at *
      go_wp2_with (go_at_call 19; refine HC.mono ?_; rintro e w' ⟨rfl, rfl⟩)
      go_ret
      exact ⟨ret_int H7.out.symm, ((Grown.refl _).alloc _ _).alloc _ _⟩

/-- the exported alias -/
theorem zznumber_any (s : ByteArray) (x : Int) (p : Nat) (hx : x = p) (w : World) (hs : s.size ≤ 1048576) :
    Calls Try.prog 9 #[.string s, .int .i64 x] w fun e w' => e = .returned (.int .i64 (end_ (num s.data.toList p))) ∧ Grown w w' := by
  subst hx
  go_enter Try.func9, Try.ntmps9
  go_wp2_with (go_at_call 16; refine (number_any _ _ _ hs).mono ?_; rintro e w' ⟨rfl, hg⟩)
  go_ret
  exact ⟨rfl, by assumption⟩
end Go.Proofs.Qxb6602269a.Num
