/-
  Seat b6602300a: zzCloneList: a fresh copy of a slice of strings.
-/
import Derived.Test.Qxb6602300aReads
import Derived.WalkSpells
namespace Go.Proofs.Qxb6602300a.Ct
open Go.ChangeShapes Go.WideShapes Go.ChangeAt Go.RowKit

theorem Try.info9 : (Try.prog.info? 9).map (fun i => (i.zero, i.size, i.bytes)) = some (some (.string ByteArray.empty), 1, 16) := by kernel_rfl

/-! ### strings in memory, carried on -/
theorem Strs.below {w w' : World} {a : Option Addr} {n B : Nat} {L : List ByteArray} (h : Strs w a n L) (hb : Below B w w') (hB : w.heap.size ≤ B) : Strs w' a n L := by
  obtain ⟨hl, h⟩ := h
  refine ⟨hl, ?_⟩
  rcases h with h | ⟨b, off, rfl, hlt, hc⟩
  · exact .inl h
  · refine .inr ⟨b, off, rfl, by have := hb.size; omega, fun i hi => ?_⟩
    rw [hb.cell (p := ⟨b, off + i, none⟩) (by show b < B; omega)]
    exact hc i hi
theorem Strs.own {w : World} {base g n cap : Nat} {L : List ByteArray} (h : w.ownsRow base 9 1 (.slice (some ⟨g, 0, none⟩) n cap) n (L.map Value.string)) : Strs w (some ⟨g, 0, none⟩) n L := by
  have hl : L.length = n := by simpa using h.1
  refine ⟨hl, .inr ⟨g, 0, rfl, (h.lt g rfl).2, fun i hi => ?_⟩⟩
  rw [Nat.zero_add, h.cellAt i (by omega)]
  simp [List.getD, List.getElem?_eq_getElem (show i < L.length by omega)]
theorem Strs.nil (w : World) (a : Option Addr) : Strs w a 0 [] := ⟨rfl, .inl rfl⟩

/-- the row while it is filled: the first k strings, then zeros -/
def part (L : List ByteArray) (n k : Nat) : List Value := (L.take k).map Value.string ++ List.replicate (n - k) (.string ByteArray.empty)
theorem part_zero (L : List ByteArray) (n : Nat) : part L n 0 = List.replicate n (.string ByteArray.empty) := by simp [part]
theorem part_full {L : List ByteArray} {n : Nat} (h : L.length = n) : part L n n = L.map Value.string := by
  simp [part, List.take_of_length_le (Nat.le_of_eq h)]
theorem part_at {L : List ByteArray} {n k : Nat} (hl : L.length = n) (hk : k < n) : (part L n k)[k]? = some (.string ByteArray.empty) := by
  have el : ((L.take k).map Value.string).length = k := by simp; omega
  unfold part
  rw [List.getElem?_append_right (by omega), el, List.getElem?_replicate, if_pos (by omega)]
theorem part_set {L : List ByteArray} {n k : Nat} (hl : L.length = n) (hk : k < n) : (part L n k).set k (.string (L.getD k ByteArray.empty)) = part L n (k + 1) := by
  have hk' : k < L.length := by omega
  have el : ((L.take k).map Value.string).length = k := by simp; omega
  have e : n - k = (n - (k + 1)) + 1 := by omega
  unfold part
  rw [List.set_append_right _ _ (by omega), el, Nat.sub_self, e, List.replicate_succ, List.set_cons_zero, List.take_succ_eq_append_getElem hk', getD_lt hk', List.map_append, List.append_assoc]
  rfl

/-! ### the walk -/
theorem clone_nil (w : World) :
    Calls Try.prog 15 #[.slice none 0 0] w fun e w' => e = .returned (.slice none 0 0) ∧ w' = w := by
  have hnil := fun wx => Lib.run_eql_slice_nil (P := Try.prog) wx 32 9 none 0 0 0 0 Try.underlying32
  go_enter Try.func15, Try.ntmps15
  go_wp2
  go_ret
  exact ⟨rfl, rfl⟩

set_option maxHeartbeats 400000 in
theorem clone_some (w : World) (x : Addr) (n cap : Nat) (L : List ByteArray) (hS : Strs w (some x) n L) (hn : n ≤ 65536) :
    Calls Try.prog 15 #[.slice (some x) n cap] w fun e w' => e = .returned (.slice (some ⟨w.heap.size, 0, none⟩) n n) ∧ Strs w' (some ⟨w.heap.size, 0, none⟩) n L ∧ Below w.heap.size w w' := by
  have hnil := fun wx => Lib.run_eql_slice_nil (P := Try.prog) wx 32 9 (some x) n cap 0 0 Try.underlying32
  obtain ⟨i0, hi, hz0, hz1, hz2⟩ := info_parts Try.info9
  have HS : Hid (Strs w (some x) n L) := hS
  have HL : Hid (L.length = n) := hS.1
  clear hS
  go_enter Try.func15, Try.ntmps15
  go_wp2_with (at_make; refine wpList_make_full _ rfl _ _ 32 rfl w.heap.size 9 i0 (.string ByteArray.empty) 1 Try.underlying32 hi hz0 hz1 .i64 .i64 _ _ n rfl rfl rfl rfl (by rw [hz2]; omega) (by unfold maxLen; omega) (by simp) ?_; intro w1 hown hgrow)
  go_loopw [4] (fun i wr => ∃ k : Nat, k ≤ n ∧ i = .int .i64 k ∧ wr.ownsRow w.heap.size 9 1 (.slice (some ⟨w.heap.size, 0, none⟩) n n) n (part L n k) ∧ Below w.heap.size w wr)
    (fun i _ => n - (intOf i).toNat)
  case atStart =>
    refine ⟨0, Nat.zero_le _, rfl, ?_, (Below.refl _ w).grown hgrow (Nat.le_refl _) (fun k hk => by cases hk)⟩
    rw [part_zero, ← toList_madeCells_one]
    simpa [Value.cells] using hown
  case round =>
    obtain ⟨k, hk, rfl, hown', hbel⟩ := hrel
    clear hown hgrow
    by_cases hlt : k < n
    · obtain ⟨b, off, hx, hb, hc⟩ : ∃ b off, some x = some ⟨b, off, none⟩ ∧ b < w.heap.size ∧ ∀ i, i < n → w.cell? ⟨b, off + i, none⟩ = some (.string (L.getD i ByteArray.empty)) := by
        rcases HS.out.2 with h | h
        · omega
        · exact h
      obtain rfl := Option.some.inj hx
      have hck : wr.cell? ⟨b, off + k, none⟩ = some (.string (L.getD k ByteArray.empty)) := (hbel.cell (p := ⟨b, off + k, none⟩) hb).trans (hc k hlt)
      have hold : wr.cell? ⟨w.heap.size, k, none⟩ = some (.string ByteArray.empty) := (hown'.cellAt k (by omega)).trans (part_at HL.out hlt)
      have hfr : wr.frozen? ⟨w.heap.size, k, none⟩ = false := hown'.frozenAt k
      have hst := (hown'.stored k (.string (L.getD k ByteArray.empty))).1
      rw [part_set HL.out hlt] at hst
      have hbel' := hbel.setCell (p := ⟨w.heap.size, k, none⟩) (Nat.le_refl _) (.string (L.getD k ByteArray.empty))
      have HST := (show Hid _ from hst)
      have HBL := (show Hid _ from hbel')
      clear hst hbel' hown' hbel hc hx hnil
      generalize L.getD k ByteArray.empty = t at *
      go_wp2
      go_roundw
      case rel => exact ⟨k + 1, by omega, by go_num, HST.out, HBL.out⟩
      case measure => simp [intOf]; omega
    · have hke : k = n := by omega
      subst hke
      have HO : Hid (Strs wr (some ⟨w.heap.size, 0, none⟩) k L) := by
        rw [part_full HL.out] at hown'
        exact Strs.own hown'
      clear hown' hnil
      go_wp2
      go_ret
      exact ⟨rfl, HO.out, hbel⟩
end Go.Proofs.Qxb6602300a.Ct
