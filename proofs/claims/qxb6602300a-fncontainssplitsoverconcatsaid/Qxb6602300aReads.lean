/-
  Seat b6602300a: slices of strings that are only read: what a walk is told of them; 'contains', the byte counts.
-/
import Derived.Test.Qxb6602300aRows
import Derived.WalkKit
import Derived.ProofKit
import Derived.OpenShut
import Derived.ShutString
namespace Go.Proofs.Qxb6602300a.Ct
open Go.ChangeShapes Go.WideShapes Go.ChangeAt Go.RowKit

/-- in w the slice value (a, n) holds the strings L -/
def Strs (w : World) (a : Option Addr) (n : Nat) (L : List ByteArray) : Prop :=
  L.length = n ∧ (n = 0 ∨ ∃ b off, a = some ⟨b, off, none⟩ ∧ b < w.heap.size ∧ ∀ i, i < n → w.cell? ⟨b, off + i, none⟩ = some (.string (L.getD i ByteArray.empty)))

/-! ### plain -/
def has (L : List ByteArray) (s : ByteArray) : Bool := L.any (fun t => t.toList == s.toList)
theorem getD_lt {L : List ByteArray} {k : Nat} (h : k < L.length) : L.getD k ByteArray.empty = L[k] := by simp [List.getD, List.getElem?_eq_getElem h]
theorem has_snoc {L : List ByteArray} {k : Nat} (h : k < L.length) (s : ByteArray) : has (L.take (k + 1)) s = (has (L.take k) s || ((L.getD k ByteArray.empty).toList == s.toList)) := by
  rw [List.take_succ_eq_append_getElem h, getD_lt h]
  unfold has
  rw [List.any_append]
  simp only [List.any_cons, List.any_nil, Bool.or_false]
theorem has_all {L : List ByteArray} {k : Nat} (h : L.length ≤ k) (s : ByteArray) : has (L.take k) s = has L s := by rw [List.take_of_length_le h]
theorem has_yes {L : List ByteArray} {k : Nat} (h : k < L.length) {s : ByteArray} (e : ((L.getD k ByteArray.empty).toList == s.toList) = true) : has L s = true := by
  unfold has
  rw [List.any_eq_true]
  refine ⟨L.getD k ByteArray.empty, ?_, e⟩
  rw [getD_lt h]
  exact List.getElem_mem h
theorem has_append (A B : List ByteArray) (s : ByteArray) : has (A ++ B) s = (has A s || has B s) := by simp [has]
theorem has_reverse (A : List ByteArray) (s : ByteArray) : has A.reverse s = has A s := by simp [has]
theorem has_mid (A B : List ByteArray) (s : ByteArray) : has (A ++ [s] ++ B) s = true := by simp [has]

theorem ret_bool {a b : Bool} (h : a = b) : Ending.returned (.bool a) = .returned (.bool b) := by rw [h]

/-! ### 'contains' -/
set_option maxHeartbeats 400000 in
theorem contains_any (w : World) (a : Option Addr) (n cap : Nat) (s : ByteArray) (L : List ByteArray) (hS : Strs w a n L) (hn : n ≤ maxLen) :
    Calls Try.prog 18 #[.slice a n cap, .string s] w fun e w' => e = .returned (.bool (has L s)) ∧ w' = w := by
  unfold maxLen at hn
  obtain ⟨hl, hS⟩ := hS
  have HL : Hid (L.length = n) := hl
  clear hl
  rcases hS with rfl | ⟨b, off, rfl, hb, hc⟩
  · have H : Hid (has L s = false) := by
      show has L s = false
      rw [List.eq_nil_of_length_eq_zero HL.out]; rfl
    go_enter Try.func18, Try.ntmps18
    go_wp2
    go_loop [9] (fun i => i = .int .i64 0) (fun _ => 0)
    case atStart => rfl
    case round =>
      subst hrel
      go_wp2
      go_ret
      exact ⟨ret_bool H.out.symm, rfl⟩
  · go_enter Try.func18, Try.ntmps18
    go_wp2
    go_loop [9] (fun i => ∃ k : Nat, k ≤ n ∧ i = .int .i64 k ∧ Hid (has (L.take k) s = false)) (fun i => n - (intOf i).toNat)
    case atStart => exact ⟨0, Nat.zero_le _, rfl, rfl⟩
    case round =>
      obtain ⟨k, hk, rfl, H⟩ := hrel
      by_cases hlt : k < n
      · have hck := hc k hlt
        have h1 : Hid (has (L.take (k + 1)) s = (has (L.take k) s || ((L.getD k ByteArray.empty).toList == s.toList))) := has_snoc (by rw [HL.out]; exact hlt) s
        have h2 : Hid (((L.getD k ByteArray.empty).toList == s.toList) = true → has L s = true) := has_yes (by rw [HL.out]; exact hlt)
        clear hc
        generalize L.getD k ByteArray.empty = t at *
        cases ht : (t.toList == s.toList) with
        | true =>
          have H2 : Hid (has L s = true) := h2.out ht
          go_wp2
          go_ret
          exact ⟨ret_bool H2.out.symm, rfl⟩
        | false =>
          have H2 : Hid (has (L.take (k + 1)) s = false) := by
            show has (L.take (k + 1)) s = false
            rw [h1.out, H.out, ht]; rfl
          go_wp2
          go_round
          case rel => exact ⟨k + 1, by omega, by go_num, H2⟩
          case measure => simp [intOf]; omega
      · have H2 : Hid (has L s = false) := by
          show has L s = false
          rw [← has_all (k := k) (by rw [HL.out]; omega) s]; exact H.out
        clear hc
        go_wp2
        go_ret
        exact ⟨ret_bool H2.out.symm, rfl⟩

theorem zzcontains_any (w : World) (a : Option Addr) (n cap : Nat) (s : ByteArray) (L : List ByteArray) (hS : Strs w a n L) (hn : n ≤ maxLen) :
    Calls Try.prog 16 #[.slice a n cap, .string s] w fun e w' => e = .returned (.bool (has L s)) ∧ w' = w := by
  go_enter Try.func16, Try.ntmps16
  go_wp2_with (go_at_call 18; refine (contains_any _ _ _ _ _ _ hS hn).mono ?_; rintro e w' ⟨rfl, rfl⟩)
  go_ret
  exact ⟨rfl, rfl⟩

/-! ### the count of a list's bytes: some int -/
set_option maxHeartbeats 400000 in
theorem listBytes_any (w : World) (a : Option Addr) (n cap : Nat) (L : List ByteArray) (hS : Strs w a n L) (hn : n ≤ maxLen) :
    Calls Try.prog 14 #[.slice a n cap] w fun e w' => (∃ z, e = .returned (.int .i64 z)) ∧ w' = w := by
  unfold maxLen at hn
  obtain ⟨hl, hS⟩ := hS
  clear hl
  rcases hS with rfl | ⟨b, off, rfl, hb, hc⟩
  · go_enter Try.func14, Try.ntmps14
    go_wp2
    go_loop [3, 4] (fun t i => (∃ z, t = .int .i64 z) ∧ i = .int .i64 0) (fun _ _ => 0)
    case atStart => exact ⟨⟨_, rfl⟩, rfl⟩
    case round =>
      obtain ⟨⟨z, rfl⟩, rfl⟩ := hrel
      go_wp2
      go_ret
      exact ⟨⟨_, rfl⟩, rfl⟩
  · go_enter Try.func14, Try.ntmps14
    go_wp2
    go_loop [3, 4] (fun t i => ∃ k : Nat, k ≤ n ∧ i = .int .i64 k ∧ ∃ z, t = .int .i64 z) (fun _ i => n - (intOf i).toNat)
    case atStart => exact ⟨0, Nat.zero_le _, rfl, _, rfl⟩
    case round =>
      obtain ⟨k, hk, rfl, z, rfl⟩ := hrel
      by_cases hlt : k < n
      · have hck := hc k hlt
        clear hc
        generalize L.getD k ByteArray.empty = t at *
        go_wp2
        all_goals first
          | (go_ret; exact ⟨⟨_, rfl⟩, rfl⟩)
          | (go_round; (case rel => exact ⟨k + 1, by omega, by go_num, _, rfl⟩); (case measure => simp [intOf]; omega))
      · clear hc
        go_wp2
        go_ret
        exact ⟨⟨_, rfl⟩, rfl⟩

/-! ### the guard: some bool -/
def SomeBool (e : Ending) : Prop := ∃ g, e = .returned (.bool g)

set_option maxHeartbeats 1000000 in
theorem guard_any (w : World) (a : Option Addr) (n cap : Nat) (L : List ByteArray) (hS : Strs w a n L) (hn : n ≤ maxLen)
    (a' : Option Addr) (n' cap' : Nat) (L' : List ByteArray) (hS' : Strs w a' n' L') (hn' : n' ≤ maxLen) (s : ByteArray) :
    Calls Try.prog 13 #[.slice a n cap, .slice a' n' cap', .string s] w fun e w' => SomeBool e ∧ w' = w := by
  unfold maxLen at hn hn'
  obtain ⟨hl, hS⟩ := hS
  obtain ⟨hl', hS'⟩ := hS'
  clear hl hl'
  have hc : ∀ k, k < n → ∃ b off, a = some ⟨b, off, none⟩ ∧ w.cell? ⟨b, off + k, none⟩ = some (.string (L.getD k ByteArray.empty)) := by
    intro k hk
    rcases hS with h0 | ⟨b, off, e, _, h⟩
    · omega
    · exact ⟨b, off, e, h k hk⟩
  have hc' : ∀ k, k < n' → ∃ b off, a' = some ⟨b, off, none⟩ ∧ w.cell? ⟨b, off + k, none⟩ = some (.string (L'.getD k ByteArray.empty)) := by
    intro k hk
    rcases hS' with h0 | ⟨b, off, e, _, h⟩
    · omega
    · exact ⟨b, off, e, h k hk⟩
  have HC := (show Hid _ from hc)
  have HC' := (show Hid _ from hc')
  clear hS hS' hc hc'
  go_enter Try.func13, Try.ntmps13
  go_wp2
  all_goals try (go_ret; exact ⟨⟨_, rfl⟩, rfl⟩)
  go_loop [7, 8] (fun t i => ∃ k : Nat, k ≤ n ∧ i = .int .i64 k ∧ ∃ z, t = .int .i64 z) (fun _ i => n - (intOf i).toNat)
  case atStart => exact ⟨0, Nat.zero_le _, rfl, _, rfl⟩
  case round =>
    obtain ⟨k, hk, rfl, z, rfl⟩ := hrel
    by_cases hlt : k < n
    · obtain ⟨b, off, ha, hck⟩ := HC.out k hlt
      clear HC
      subst ha
      generalize L.getD k ByteArray.empty = t at *
      go_wp2
      all_goals first
        | (go_ret; exact ⟨⟨_, rfl⟩, rfl⟩)
        | (go_round; (case rel => exact ⟨k + 1, by omega, by go_num, _, rfl⟩); (case measure => simp [intOf]; omega))
    · go_wp2
      all_goals try (go_ret; exact ⟨⟨_, rfl⟩, rfl⟩)
      go_loop [7, 9] (fun t i => ∃ k : Nat, k ≤ n' ∧ i = .int .i64 k ∧ ∃ z, t = .int .i64 z) (fun _ i => n' - (intOf i).toNat)
      case atStart => exact ⟨0, Nat.zero_le _, rfl, _, rfl⟩
      case round =>
        obtain ⟨k', hk', rfl, z', rfl⟩ := hrel
        by_cases hlt' : k' < n'
        · obtain ⟨b, off, ha, hck⟩ := HC'.out k' hlt'
          clear HC' HC
          subst ha
          generalize L'.getD k' ByteArray.empty = t at *
          go_wp2
          all_goals first
            | (go_ret; exact ⟨⟨_, rfl⟩, rfl⟩)
            | (go_round; (case rel => exact ⟨k' + 1, by omega, by go_num, _, rfl⟩); (case measure => simp [intOf]; omega))
        · go_wp2
          all_goals (go_ret; exact ⟨⟨_, rfl⟩, rfl⟩)
end Go.Proofs.Qxb6602300a.Ct
