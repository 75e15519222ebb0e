/-
  Seat b6602300a: the law FnContainsSplitsOverConcat.
-/
import Derived.Test.Qxb6602300aClone
namespace Go.Proofs.Qxb6602300a.Ct
open Go.ChangeShapes Go.WideShapes Go.ChangeAt Go.RowKit

def SomeClone (w : World) (n : Nat) (L : List ByteArray) (e : Ending) (w' : World) : Prop :=
  ∃ aa, e = .returned (.slice aa n n) ∧ Strs w' aa n L ∧ Below w.heap.size w w'
theorem clone_any (w : World) (a : Option Addr) (n cap : Nat) (L : List ByteArray) (hS : Strs w a n L) (hn : n ≤ 65536) (hnil : a = none → n = 0 ∧ cap = 0) :
    Calls Try.prog 15 #[.slice a n cap] w (SomeClone w n L) := by
  cases a with
  | none =>
    obtain ⟨rfl, rfl⟩ := hnil rfl
    exact (clone_nil w).mono fun e w' ⟨he, hw⟩ => ⟨none, he, by rw [hw]; exact ⟨hS.1, .inl rfl⟩, by rw [hw]; exact Below.refl _ _⟩
  | some x => exact (clone_some w x n cap L hS hn).mono fun e w' ⟨he, h1, h2⟩ => ⟨_, he, h1, h2⟩

/-- the cells behind a slice of which something is read -/
theorem Strs.at {w : World} {a : Option Addr} {n k : Nat} {L : List ByteArray} (h : Strs w a n L) (hk : k < n) :
    ∃ b off, a = some ⟨b, off, none⟩ ∧ b < w.heap.size ∧ w.cell? ⟨b, off + k, none⟩ = some (.string (L.getD k ByteArray.empty)) := by
  rcases h.2 with h0 | ⟨b, off, e, hb, hc⟩
  · omega
  · exact ⟨b, off, e, hb, hc k hk⟩

/-- what one append within the capacity does -/
theorem pushed {w0 wr w' : World} {g k cap : Nat} {M : List ByteArray} {t : ByteArray} {o : Obj} (hbel : Below w0.heap.size w0 wr)
    (hown' : w'.ownsRow w0.heap.size 9 1 (.slice (some ⟨g, 0, none⟩) (k + 1) cap) (k + 1) (M.map Value.string ++ [.string t])) (hgrow : (wr.alloc o).grownBy w' (some g)) (hg : w0.heap.size ≤ g) :
    w'.ownsRow w0.heap.size 9 1 (.slice (some ⟨g, 0, none⟩) (k + 1) cap) (k + 1) ((M ++ [t]).map Value.string) ∧ Below w0.heap.size w0 w' := by
  refine ⟨by rw [List.map_append]; exact hown', ?_⟩
  have hs := hbel.size
  exact (hbel.alloc hs o).grown hgrow (by simp; omega) (fun k hk => by cases hk; exact hg)

theorem take_next {A : List ByteArray} {k : Nat} (h : k < A.length) : A.take (k + 1) = A.take k ++ [A.getD k ByteArray.empty] := by
  rw [List.take_succ_eq_append_getElem h, getD_lt h]
theorem rev_next {J : List ByteArray} {m k : Nat} (h : J.length = m + k + 1) : J.reverse.take (k + 1) = J.reverse.take k ++ [J.getD m ByteArray.empty] := by
  rw [List.take_succ_eq_append_getElem (by simp; omega), getD_lt (by omega), List.getElem_reverse]
  congr 3
  omega
theorem one_cell (w : World) (t : ByteArray) : ∀ j u, [Value.string t][j]? = some u → (w.alloc (.cells #[.string t] 9)).cell? ((⟨w.heap.size, 0, none⟩ : Addr).add j) = some u := by
  intro j u hj
  match j, hj with
  | 0, hj => simp at hj; subst hj; simp [Addr.add]
theorem one_string (t : ByteArray) : ∀ u ∈ [Value.string t], u.oneCell' = true := by
  intro u hu; simp at hu; subst hu; rfl

/-! ### the ways that end early -/
set_option maxHeartbeats 400000 in
set_option maxRecDepth 100000 in
theorem law_big (w : World) (a : Option Addr) (n cap : Nat) (L : List ByteArray) (hS : Strs w a n L) (hn : n ≤ maxLen)
    (a' : Option Addr) (n' cap' : Nat) (L' : List ByteArray) (hS' : Strs w a' n' L') (hn' : n' ≤ maxLen) (s : ByteArray) (hs : s.size ≤ maxLen)
    (h : 65536 < n ∨ 65536 < n' ∨ 1048576 < s.size) :
    Calls Try.prog 6 #[.slice a n cap, .slice a' n' cap', .string s] w fun e w' => e = .returned (.bool true) ∧ w' = w := by
  have HG : Hid (∀ wx, wx = w → Calls Try.prog 13 #[.slice a n cap, .slice a' n' cap', .string s] wx fun e w' => SomeBool e ∧ w' = wx) := by
    rintro wx rfl
    exact guard_any _ a n cap L hS hn a' n' cap' L' hS' hn' s
  unfold maxLen at hn hn' hs
  clear hS hS'
  by_cases h1 : 65536 < n
  · clear h
    go_enter Try.func6, Try.ntmps6
    go_wp2_with (go_at_call 13; refine (HG.out _ rfl).mono ?_; rintro e w' ⟨⟨g, rfl⟩, rfl⟩; cases g)
    all_goals (go_ret; exact ⟨rfl, rfl⟩)
  · by_cases h2 : 65536 < n'
    · clear h
      go_enter Try.func6, Try.ntmps6
      go_wp2_with (go_at_call 13; refine (HG.out _ rfl).mono ?_; rintro e w' ⟨⟨g, rfl⟩, rfl⟩; cases g)
      all_goals (go_ret; exact ⟨rfl, rfl⟩)
    · have h3 : 1048576 < s.size := by omega
      clear h
      go_enter Try.func6, Try.ntmps6
      go_wp2_with (go_at_call 13; refine (HG.out _ rfl).mono ?_; rintro e w' ⟨⟨g, rfl⟩, rfl⟩; cases g)
      all_goals (go_ret; exact ⟨rfl, rfl⟩)

/-! ### the law -/
set_option maxHeartbeats 2000000 in
set_option maxRecDepth 100000 in
theorem law_core (w : World) (a : Option Addr) (n cap : Nat) (A : List ByteArray) (hA : Strs w a n A) (hn : n ≤ 65536) (hnil : a = none → n = 0 ∧ cap = 0)
    (a' : Option Addr) (n' cap' : Nat) (B : List ByteArray) (hB : Strs w a' n' B) (hn' : n' ≤ 65536) (hnil' : a' = none → n' = 0 ∧ cap' = 0) (s : ByteArray) (hs : s.size ≤ 1048576) :
    Calls Try.prog 6 #[.slice a n cap, .slice a' n' cap', .string s] w fun e w' => e = .returned (.bool true) ∧ Below w.heap.size w w' := by
  obtain ⟨i0, hi, hz0, hz1, hz2⟩ := info_parts Try.info9
  have HG : Hid (∀ wx, wx = w → Calls Try.prog 13 #[.slice a n cap, .slice a' n' cap', .string s] wx fun e w' => SomeBool e ∧ w' = wx) := by
    rintro wx rfl
    exact guard_any _ a n cap A hA (by unfold maxLen; omega) a' n' cap' B hB (by unfold maxLen; omega) s
  have HA : Hid (Strs w a n A) := hA
  have HB : Hid (Strs w a' n' B) := hB
  have HN : Hid (a = none → n = 0 ∧ cap = 0) := hnil
  have HN' : Hid (a' = none → n' = 0 ∧ cap' = 0) := hnil'
  have HL : Hid (A.length = n) := hA.1
  have HL' : Hid (B.length = n') := hB.1
  clear hA hB hnil hnil'
  go_enter Try.func6, Try.ntmps6
  go_wp2_with (go_at_call 13; refine (HG.out _ rfl).mono ?_; rintro e w' ⟨⟨g, rfl⟩, rfl⟩; cases g)
  · go_ret
    exact ⟨rfl, Below.refl _ _⟩
  clear HG
  refine (listBytes_any _ a n cap A HA.out (by unfold maxLen; omega)).mono ?_
  rintro e w' ⟨⟨z1, rfl⟩, rfl⟩
  go_wp2_with fail
  refine (listBytes_any _ a' n' cap' B HB.out (by unfold maxLen; omega)).mono ?_
  rintro e w' ⟨⟨z2, rfl⟩, rfl⟩
  go_wp2_with fail
  · go_ret
    exact ⟨rfl, Below.refl _ _⟩
  refine (clone_any _ a n cap A HA.out hn HN.out).mono ?_
  rintro e w1 ⟨aA, rfl, hA1, hb1⟩
  go_wp2_with fail
  refine (clone_any _ a' n' cap' B (HB.out.below hb1 (Nat.le_refl _)) hn' HN'.out).mono ?_
  rintro e w2 ⟨aB, rfl, hB2, hb2⟩
  have hA2 := hA1.below hb2 (Nat.le_refl _)
  have hb0 := hb1.trans (hb2.mono hb1.size)
  clear hA1 hb1 hb2 HN HN' HA HB
  go_wp2_with (at_make; refine wpList_make_own _ rfl _ _ 32 rfl w2.heap.size 9 i0 (.string ByteArray.empty) 1 Try.underlying32 hi hz0 hz1 .i64 .i64 _ (n + n') rfl rfl (by omega) (by rw [hz2]; omega) (by unfold maxLen; omega) (by simp) ?_; intro w3 hown3 hgrow3)
  go_loopw [7, 8] (fun v i wr => ∃ k : Nat, k ≤ n ∧ i = .int .i64 k ∧ v = .slice (some ⟨w2.heap.size, 0, none⟩) k (n + n') ∧ wr.ownsRow w2.heap.size 9 1 (.slice (some ⟨w2.heap.size, 0, none⟩) k (n + n')) k ((A.take k).map Value.string) ∧ Below w2.heap.size w2 wr)
    (fun _ i _ => n - (intOf i).toNat)
  case atStart => exact ⟨0, Nat.zero_le _, rfl, rfl, by simpa using hown3, (Below.refl _ w2).grown hgrow3 (Nat.le_refl _) (fun k hk => by cases hk)⟩
  case round =>
  obtain ⟨k, hk, rfl, rfl, hown, hbel⟩ := hrel
  clear hown3 hgrow3
  by_cases hlt : k < n
  · obtain ⟨b, off, ha, hb, hc⟩ := hA2.at hlt
    have hck : wr.cell? ⟨b, off + k, none⟩ = some (.string (A.getD k ByteArray.empty)) := (hbel.cell (p := ⟨b, off + k, none⟩) hb).trans hc
    have HT : Hid (A.take (k + 1) = A.take k ++ [A.getD k ByteArray.empty]) := take_next (by rw [HL.out]; exact hlt)
    subst ha
    clear hc hA2 hB2 HL HL'
    generalize A.getD k ByteArray.empty = t at *
    go_wp2_with (at_builtin; refine wpList_append_fits _ rfl (.tmp 61) (.tmp 66) 32 rfl w2.heap.size 9 i0 1 Try.underlying32 hi hz1 w2.heap.size k (n + n') _ rfl (hown.alloc _) ⟨wr.heap.size, 0, none⟩ 1 1 [.string t] rfl rfl (one_cell _ _) (one_string _) (by omega) ?_; intro w4 hown4 hgrow4)
    obtain ⟨r1, r2⟩ := pushed hbel hown4 hgrow4 (Nat.le_refl _)
    go_roundw
    case rel => exact ⟨k + 1, by omega, by go_num, rfl, by rw [HT.out]; exact r1, r2⟩
    case measure => simp [intOf]; omega
  have hke : n = k := by omega
  subst hke
  rw [List.take_of_length_le (Nat.le_of_eq HL.out)] at hown
  clear hlt hk
  go_wp2_with fail
  go_loopw [7, 9] (fun v i wr => ∃ k : Nat, k ≤ n' ∧ i = .int .i64 k ∧ v = .slice (some ⟨w2.heap.size, 0, none⟩) (n + k) (n + n') ∧ wr.ownsRow w2.heap.size 9 1 (.slice (some ⟨w2.heap.size, 0, none⟩) (n + k) (n + n')) (n + k) ((A ++ B.take k).map Value.string) ∧ Below w2.heap.size w2 wr)
    (fun _ i _ => n' - (intOf i).toNat)
  case atStart => exact ⟨0, Nat.zero_le _, rfl, rfl, by simpa using hown, hbel⟩
  case round =>
  clear hown hbel
  obtain ⟨k, hk, rfl, rfl, hown, hbel⟩ := hrel
  by_cases hlt : k < n'
  · obtain ⟨b, off, ha, hb, hc⟩ := hB2.at hlt
    have hck : wr.cell? ⟨b, off + k, none⟩ = some (.string (B.getD k ByteArray.empty)) := (hbel.cell (p := ⟨b, off + k, none⟩) hb).trans hc
    have HT : Hid (A ++ B.take (k + 1) = A ++ B.take k ++ [B.getD k ByteArray.empty]) := by
      show _ = _
      rw [take_next (by rw [HL'.out]; exact hlt), List.append_assoc]
    subst ha
    clear hc hA2 hB2 HL HL'
    generalize B.getD k ByteArray.empty = t at *
    go_wp2_with (at_builtin; refine wpList_append_fits _ rfl (.tmp 74) (.tmp 79) 32 rfl w2.heap.size 9 i0 1 Try.underlying32 hi hz1 w2.heap.size (n + k) (n + n') _ rfl (hown.alloc _) ⟨wr.heap.size, 0, none⟩ 1 1 [.string t] rfl rfl (one_cell _ _) (one_string _) (by omega) ?_; intro w4 hown4 hgrow4)
    obtain ⟨r1, r2⟩ := pushed hbel hown4 hgrow4 (Nat.le_refl _)
    go_roundw
    case rel => exact ⟨k + 1, by omega, by go_num, rfl, by rw [HT.out]; exact r1, r2⟩
    case measure => simp [intOf]; omega
  have hke : n' = k := by omega
  subst hke
  rw [List.take_of_length_le (Nat.le_of_eq HL'.out)] at hown
  have hJ5 := Strs.own hown
  have hA5 := hA2.below hbel (Nat.le_refl _)
  have hB5 := hB2.below hbel (Nat.le_refl _)
  have hb5 := hb0.trans (hbel.mono hb0.size)
  have hg1 : w2.heap.size < wr.heap.size := (hown.lt _ rfl).2
  clear hlt hk hown hbel hA2 hB2 hb0
  obtain ⟨w5, hw5⟩ : ∃ x, x = wr := ⟨_, rfl⟩
  subst hw5
  generalize w2.heap.size = g1 at *
  go_wp2_with (at_make; refine wpList_make_own _ rfl _ _ 32 rfl w5.heap.size 9 i0 (.string ByteArray.empty) 1 Try.underlying32 hi hz0 hz1 .i64 .i64 _ (n + n' + 1) rfl rfl (by omega) (by rw [hz2]; omega) (by unfold maxLen; omega) (by simp) ?_; intro w6 hown6 hgrow6)
  go_loopw [10, 11] (fun v i wr => ∃ k : Nat, k ≤ n ∧ i = .int .i64 k ∧ v = .slice (some ⟨w5.heap.size, 0, none⟩) k (n + n' + 1) ∧ wr.ownsRow w5.heap.size 9 1 (.slice (some ⟨w5.heap.size, 0, none⟩) k (n + n' + 1)) k ((A.take k).map Value.string) ∧ Below w5.heap.size w5 wr)
    (fun _ i _ => n - (intOf i).toNat)
  case atStart => exact ⟨0, Nat.zero_le _, rfl, rfl, by simpa using hown6, (Below.refl _ w5).grown hgrow6 (Nat.le_refl _) (fun k hk => by cases hk)⟩
  case round =>
  obtain ⟨k, hk, rfl, rfl, hown, hbel⟩ := hrel
  clear hown6 hgrow6
  by_cases hlt : k < n
  · obtain ⟨b, off, ha, hb, hc⟩ := hA5.at hlt
    have hck : wr.cell? ⟨b, off + k, none⟩ = some (.string (A.getD k ByteArray.empty)) := (hbel.cell (p := ⟨b, off + k, none⟩) hb).trans hc
    have HT : Hid (A.take (k + 1) = A.take k ++ [A.getD k ByteArray.empty]) := take_next (by rw [HL.out]; exact hlt)
    subst ha
    clear hc hA5 hB5 hJ5 HL HL'
    generalize A.getD k ByteArray.empty = t at *
    go_wp2_with (at_builtin; refine wpList_append_fits _ rfl (.tmp 94) (.tmp 99) 32 rfl w5.heap.size 9 i0 1 Try.underlying32 hi hz1 w5.heap.size k (n + n' + 1) _ rfl (hown.alloc _) ⟨wr.heap.size, 0, none⟩ 1 1 [.string t] rfl rfl (one_cell _ _) (one_string _) (by omega) ?_; intro w4 hown4 hgrow4)
    obtain ⟨r1, r2⟩ := pushed hbel hown4 hgrow4 (Nat.le_refl _)
    go_roundw
    case rel => exact ⟨k + 1, by omega, by go_num, rfl, by rw [HT.out]; exact r1, r2⟩
    case measure => simp [intOf]; omega
  have hke : n = k := by omega
  subst hke
  rw [List.take_of_length_le (Nat.le_of_eq HL.out)] at hown
  clear hlt hk
  go_wp2_with (at_builtin; refine wpList_append_fits _ rfl (.tmp 101) (.tmp 103) 32 rfl w5.heap.size 9 i0 1 Try.underlying32 hi hz1 w5.heap.size n (n + n' + 1) _ rfl (hown.alloc _) ⟨wr.heap.size, 0, none⟩ 1 1 [.string s] rfl rfl (one_cell _ _) (one_string _) (by omega) ?_; intro w4 hown4 hgrow4)
  obtain ⟨r1, r2⟩ := pushed hbel hown4 hgrow4 (Nat.le_refl _)
  clear hown4 hgrow4 hown hbel
  go_loopw [10, 12] (fun v i wr => ∃ k : Nat, k ≤ n' ∧ i = .int .i64 k ∧ v = .slice (some ⟨w5.heap.size, 0, none⟩) (n + 1 + k) (n + n' + 1) ∧ wr.ownsRow w5.heap.size 9 1 (.slice (some ⟨w5.heap.size, 0, none⟩) (n + 1 + k) (n + n' + 1)) (n + 1 + k) ((A ++ [s] ++ B.take k).map Value.string) ∧ Below w5.heap.size w5 wr)
    (fun _ i _ => n' - (intOf i).toNat)
  case atStart => exact ⟨0, Nat.zero_le _, rfl, rfl, by rw [List.take_zero, List.append_nil]; exact r1, r2⟩
  case round =>
  clear r1 r2
  obtain ⟨k, hk, rfl, rfl, hown, hbel⟩ := hrel
  by_cases hlt : k < n'
  · obtain ⟨b, off, ha, hb, hc⟩ := hB5.at hlt
    have hck : wr.cell? ⟨b, off + k, none⟩ = some (.string (B.getD k ByteArray.empty)) := (hbel.cell (p := ⟨b, off + k, none⟩) hb).trans hc
    have HT : Hid (A ++ [s] ++ B.take (k + 1) = A ++ [s] ++ B.take k ++ [B.getD k ByteArray.empty]) := by
      show _ = _
      rw [take_next (by rw [HL'.out]; exact hlt), ← List.append_assoc]
    subst ha
    clear hc hA5 hB5 hJ5 HL HL'
    generalize B.getD k ByteArray.empty = t at *
    go_wp2_with (at_builtin; refine wpList_append_fits _ rfl (.tmp 111) (.tmp 116) 32 rfl w5.heap.size 9 i0 1 Try.underlying32 hi hz1 w5.heap.size (n + 1 + k) (n + n' + 1) _ rfl (hown.alloc _) ⟨wr.heap.size, 0, none⟩ 1 1 [.string t] rfl rfl (one_cell _ _) (one_string _) (by omega) ?_; intro w4 hown4 hgrow4)
    obtain ⟨r1, r2⟩ := pushed hbel hown4 hgrow4 (Nat.le_refl _)
    go_roundw
    case rel => exact ⟨k + 1, by omega, by go_num, rfl, by rw [HT.out]; exact r1, r2⟩
    case measure => simp [intOf]; omega
  have hke : n' = k := by omega
  subst hke
  rw [List.take_of_length_le (Nat.le_of_eq HL'.out)] at hown
  have hW8 := Strs.own hown
  have hJ8 := hJ5.below hbel (Nat.le_refl _)
  have hA8 := hA5.below hbel (Nat.le_refl _)
  have hB8 := hB5.below hbel (Nat.le_refl _)
  have hb8 := hb5.trans (hbel.mono hb5.size)
  have hg2 : w5.heap.size < wr.heap.size := (hown.lt _ rfl).2
  have hs8 := hbel.size
  have hg3 : g1 < wr.heap.size := by omega
  clear hlt hk hown hbel hA5 hB5 hJ5 hb5 hg1
  obtain ⟨w8, hw8⟩ : ∃ x, x = wr := ⟨_, rfl⟩
  subst hw8
  generalize w5.heap.size = g2 at *
  go_wp2_with (at_make; refine wpList_make_own _ rfl _ _ 32 rfl w8.heap.size 9 i0 (.string ByteArray.empty) 1 Try.underlying32 hi hz0 hz1 .i64 .i64 _ (n + n') rfl rfl (by omega) (by rw [hz2]; omega) (by unfold maxLen; omega) (by simp) ?_; intro w9 hown9 hgrow9)
  go_loopw [13, 14] (fun v i wr => ∃ k : Nat, k ≤ n + n' ∧ i = .int .i64 (((n + n' : Nat) : Int) - 1 - (k : Int)) ∧ v = .slice (some ⟨w8.heap.size, 0, none⟩) k (n + n') ∧ wr.ownsRow w8.heap.size 9 1 (.slice (some ⟨w8.heap.size, 0, none⟩) k (n + n')) k (((A ++ B).reverse.take k).map Value.string) ∧ Below w8.heap.size w8 wr)
    (fun _ i _ => (intOf i + 1).toNat)
  case atStart => exact ⟨0, Nat.zero_le _, by go_num, rfl, by simpa using hown9, (Below.refl _ w8).grown hgrow9 (Nat.le_refl _) (fun k hk => by cases hk)⟩
  case round =>
  obtain ⟨k, hk, rfl, rfl, hown, hbel⟩ := hrel
  clear hown9 hgrow9
  by_cases hlt : k < n + n'
  · obtain ⟨m, hm⟩ : ∃ m : Nat, n + n' = m + k + 1 := ⟨n + n' - k - 1, by omega⟩
    rw [show ((n + n' : Nat) : Int) - 1 - (k : Int) = (m : Int) from by omega]
    have hmn : m < n + n' := by omega
    obtain ⟨b, off, ha, hb, hc⟩ := hJ8.at hmn
    obtain ⟨rfl, rfl⟩ : g1 = b ∧ 0 = off := by
      have := Option.some.inj ha
      simp at this
      exact this
    have hck : wr.cell? ⟨g1, m, none⟩ = some (.string ((A ++ B).getD m ByteArray.empty)) := by
      rw [Nat.zero_add] at hc
      exact (hbel.cell (p := ⟨g1, m, none⟩) hb).trans hc
    have HT : Hid ((A ++ B).reverse.take (k + 1) = (A ++ B).reverse.take k ++ [(A ++ B).getD m ByteArray.empty]) := rev_next (by rw [List.length_append, HL.out, HL'.out]; exact hm)
    have HM : Hid (((n + n' : Nat) : Int) - 1 - ((k + 1 : Nat) : Int) = (m : Int) - 1) := by
      show _ = _
      omega
    have hmb : (m : Int) ≤ 131072 := by omega
    clear hc hA8 hB8 hJ8 hW8 HL HL' ha hm
    generalize (A ++ B).getD m ByteArray.empty = t at *
    go_wp2_with (at_builtin; refine wpList_append_fits _ rfl (.tmp 128) (.tmp 133) 32 rfl w8.heap.size 9 i0 1 Try.underlying32 hi hz1 w8.heap.size k (n + n') _ rfl (hown.alloc _) ⟨wr.heap.size, 0, none⟩ 1 1 [.string t] rfl rfl (one_cell _ _) (one_string _) (by omega) ?_; intro w4 hown4 hgrow4)
    obtain ⟨r1, r2⟩ := pushed hbel hown4 hgrow4 (Nat.le_refl _)
    go_roundw
    case rel => exact ⟨k + 1, by omega, by rw [HM.out], rfl, by rw [HT.out]; exact r1, r2⟩
    case measure => simp [intOf]
  have hke : n + n' = k := by omega
  subst hke
  rw [show ((n + n' : Nat) : Int) - 1 - ((n + n' : Nat) : Int) = -1 from by omega]
  rw [List.take_of_length_le (by rw [List.length_reverse, List.length_append, HL.out, HL'.out]; exact Nat.le_refl _)] at hown
  have hR9 := Strs.own hown
  have hJ9 := hJ8.below hbel (Nat.le_refl _)
  have hA9 := hA8.below hbel (Nat.le_refl _)
  have hB9 := hB8.below hbel (Nat.le_refl _)
  have hW9 := hW8.below hbel (Nat.le_refl _)
  have hb9 := hb8.trans (hbel.mono hb8.size)
  have C1 : Hid (∀ c, Calls Try.prog 16 #[.slice (some ⟨g1, 0, none⟩) (n + n') c, .string s] wr fun e w' => e = .returned (.bool (has A s || has B s)) ∧ w' = wr) := fun c => by
    have := zzcontains_any wr _ _ c s _ hJ9 (by unfold maxLen; omega)
    rw [has_append] at this
    exact this
  have C2 : Hid (∀ c, Calls Try.prog 16 #[.slice aA n c, .string s] wr fun e w' => e = .returned (.bool (has A s)) ∧ w' = wr) := fun c => zzcontains_any wr _ _ c s _ hA9 (by unfold maxLen; omega)
  have C3 : Hid (∀ c, Calls Try.prog 16 #[.slice aB n' c, .string s] wr fun e w' => e = .returned (.bool (has B s)) ∧ w' = wr) := fun c => zzcontains_any wr _ _ c s _ hB9 (by unfold maxLen; omega)
  have C4 : Hid (∀ c, Calls Try.prog 16 #[.slice (some ⟨g2, 0, none⟩) (n + 1 + n') c, .string s] wr fun e w' => e = .returned (.bool true) ∧ w' = wr) := fun c => by
    have := zzcontains_any wr _ _ c s _ hW9 (by unfold maxLen; omega)
    rw [has_mid] at this
    exact this
  have C5 : Hid (∀ c, Calls Try.prog 16 #[.slice (some ⟨w8.heap.size, 0, none⟩) (n + n') c, .string s] wr fun e w' => e = .returned (.bool (has A s || has B s)) ∧ w' = wr) := fun c => by
    have := zzcontains_any wr _ _ c s _ hR9 (by unfold maxLen; omega)
    rw [has_reverse, has_append] at this
    exact this
  clear hR9 hJ9 hA9 hB9 hW9 hJ8 hA8 hB8 hW8 hown hbel hb8 HL HL' hlt hk hg2 hg3 hs8
  obtain ⟨w9', hw9⟩ : ∃ x, x = wr := ⟨_, rfl⟩
  subst hw9
  generalize w8.heap.size = g3 at *
  generalize has A s = x at *
  generalize has B s = y at *
  go_wp2_with fail
  refine (C1.out _).mono ?_
  rintro e wa ⟨rfl, hwa⟩
  subst hwa
  go_wp2_with fail
  refine (C2.out _).mono ?_
  rintro e wa ⟨rfl, hwa⟩
  subst hwa
  go_wp2_with fail
  refine (C3.out _).mono ?_
  rintro e wa ⟨rfl, hwa⟩
  subst hwa
  cases x <;> cases y
  all_goals
    go_wp2_with fail
    refine (C4.out _).mono ?_
    rintro e wa ⟨rfl, hwa⟩
    subst hwa
    go_wp2_with fail
    refine (C5.out _).mono ?_
    rintro e wa ⟨rfl, hwa⟩
    subst hwa
    go_wp2
    go_ret
    exact ⟨rfl, hb9⟩

/-- the law, whatever the sizes -/
theorem law (w : World) (a : Option Addr) (n cap : Nat) (A : List ByteArray) (hA : Strs w a n A) (hn : n ≤ maxLen) (hnil : a = none → n = 0 ∧ cap = 0)
    (a' : Option Addr) (n' cap' : Nat) (B : List ByteArray) (hB : Strs w a' n' B) (hn' : n' ≤ maxLen) (hnil' : a' = none → n' = 0 ∧ cap' = 0) (s : ByteArray) (hs : s.size ≤ maxLen) :
    Calls Try.prog 6 #[.slice a n cap, .slice a' n' cap', .string s] w fun e w' => e = .returned (.bool true) ∧ Below w.heap.size w w' := by
  by_cases h1 : 65536 < n
  · exact (law_big w a n cap A hA hn a' n' cap' B hB hn' s hs (.inl h1)).mono fun e w' ⟨he, hw⟩ => ⟨he, by rw [hw]; exact Below.refl _ _⟩
  by_cases h2 : 65536 < n'
  · exact (law_big w a n cap A hA hn a' n' cap' B hB hn' s hs (.inr (.inl h2))).mono fun e w' ⟨he, hw⟩ => ⟨he, by rw [hw]; exact Below.refl _ _⟩
  by_cases h3 : 1048576 < s.size
  · exact (law_big w a n cap A hA hn a' n' cap' B hB hn' s hs (.inr (.inr h3))).mono fun e w' ⟨he, hw⟩ => ⟨he, by rw [hw]; exact Below.refl _ _⟩
  exact law_core w a n cap A hA (by omega) hnil a' n' cap' B hB (by omega) hnil' s (by omega)
end Go.Proofs.Qxb6602300a.Ct
