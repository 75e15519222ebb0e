/-
  Seat b6602300a: the walks of zzEntityOf, project, within, ZZWithin, zzSameEntity.
-/
import Derived.Test.Qxb6602300aRows
import Derived.WalkKit
import Derived.ProofKit
import Derived.OpenShut
import Derived.ShutString
namespace Go.Proofs.Qxb6602300a.Wi
open Go.ChangeShapes Go.WideShapes Go.ChangeAt Go.RowKit

/-- what a call that only makes memory leaves: all that was there is as it was -/
def Kept (w w' : World) : Prop := Below w.heap.size w w' ∧ Grown w w'
theorem Kept.refl (w : World) : Kept w w := ⟨Below.refl _ _, Grown.refl _⟩
theorem Kept.trans {a b c : World} (h : Kept a b) (g : Kept b c) : Kept a c :=
  ⟨h.1.trans (g.1.mono h.1.size), World.keptBut_trans h.2.1 g.2.1, fun x => (g.2.2.1 x).trans (h.2.2.1 x), Nat.le_trans h.2.2.2 g.2.2.2⟩
theorem Kept.alloc {a b : World} (h : Kept a b) (c : Array Value) (t : TypeId) : Kept a (b.alloc (.cells c t)) :=
  ⟨h.1.alloc h.1.size _, h.2.alloc _ _⟩
theorem Kept.setCell {a b : World} (h : Kept a b) {p : Addr} (hp : a.heap.size ≤ p.block) (v : Value) : Kept a (b.setCell p v) :=
  ⟨h.1.setCell hp _, h.2.setCell hp _⟩
theorem kept_cell {W w1 : World} (hb : Kept W w1) : (∀ b o, b < W.heap.size → w1.cell? ⟨b, o, none⟩ = W.cell? ⟨b, o, none⟩) ∧ (∀ b o, b < W.heap.size → w1.frozen? ⟨b, o, none⟩ = W.frozen? ⟨b, o, none⟩) :=
  ⟨fun b o h => hb.1.cell (p := ⟨b, o, none⟩) h, fun b o h => hb.1.frozen (p := ⟨b, o, none⟩) h⟩

set_option maxHeartbeats 400000 in
theorem entity_any (ty nm pj : ByteArray) (w : World) :
    Calls Try.prog 8 #[.string ty, .string nm, .string pj] w fun e w' => e = .returned (.agg #[.string ty, .string nm, .string pj]) ∧ w' = w.alloc (.cells #[.string ty, .string nm, .string pj] 25) := by
  go_enter Try.func8, Try.ntmps8
  go_wp2
  exact bodyPost_ret (v := .agg #[.string ty, .string nm, .string pj]) (by simp [results, Try.results8, go_sem]) rfl ⟨rfl, rfl⟩

/-! ### within, way by way -/
set_option maxHeartbeats 400000 in
theorem within_self (ty nm pj t : ByteArray) (h : (ty.toList == t.toList) = true) (w : World) :
    Calls Try.prog 17 #[.agg #[.string ty, .string nm, .string pj], .string t] w fun e w' => e = .returned (.tuple #[.agg #[.string ty, .string nm, .string pj], .bool true]) ∧ Kept w w' := by
  go_enter Try.func17, Try.ntmps17
  go_wp2
  exact bodyPost_ret (v := .tuple #[.agg #[.string ty, .string nm, .string pj], .bool true]) (by simp [results, Try.results17, go_sem]) rfl ⟨rfl, ((Kept.refl _).alloc _ _).alloc _ _⟩

set_option maxHeartbeats 400000 in
theorem within_server (ty nm pj t : ByteArray) (h : (ty.toList == t.toList) = false) (ht : (t.toList == [115, 101, 114, 118, 101, 114]) = true) (w : World) :
    Calls Try.prog 17 #[.agg #[.string ty, .string nm, .string pj], .string t] w fun e w' => e = .returned (.tuple #[.agg #[.string { data := #[115, 101, 114, 118, 101, 114] }, .string { data := #[] }, .string { data := #[] }], .bool true]) ∧ Kept w w' := by
  go_enter Try.func17, Try.ntmps17
  go_wp2
  exact bodyPost_ret (v := .tuple #[.agg #[.string { data := #[115, 101, 114, 118, 101, 114] }, .string { data := #[] }, .string { data := #[] }], .bool true]) (by simp [results, Try.results17, go_sem]) rfl ⟨rfl, ((Kept.refl _).alloc _ _).alloc _ _⟩

set_option maxHeartbeats 400000 in
theorem within_none (ty nm pj t : ByteArray) (h : (ty.toList == t.toList) = false) (ht : (t.toList == [115, 101, 114, 118, 101, 114]) = false)
    (hp : (t.toList == [112, 114, 111, 106, 101, 99, 116]) = false ∨ (ty.toList == [105, 110, 115, 116, 97, 110, 99, 101]) = false) (w : World) :
    Calls Try.prog 17 #[.agg #[.string ty, .string nm, .string pj], .string t] w fun e w' => e = .returned (.tuple #[.agg #[.string { data := #[] }, .string { data := #[] }, .string { data := #[] }], .bool false]) ∧ Kept w w' := by
  cases h2 : (t.toList == [112, 114, 111, 106, 101, 99, 116]) with
  | false =>
    clear hp
    go_enter Try.func17, Try.ntmps17
    go_wp2
    exact bodyPost_ret (v := .tuple #[.agg #[.string { data := #[] }, .string { data := #[] }, .string { data := #[] }], .bool false]) (by simp [results, Try.results17, go_sem]) rfl ⟨rfl, ((Kept.refl _).alloc _ _).alloc _ _⟩
  | true =>
    have h3 : (ty.toList == [105, 110, 115, 116, 97, 110, 99, 101]) = false := by
      rcases hp with hp | hp
      · rw [h2] at hp; cases hp
      · exact hp
    clear hp
    go_enter Try.func17, Try.ntmps17
    go_wp2
    exact bodyPost_ret (v := .tuple #[.agg #[.string { data := #[] }, .string { data := #[] }, .string { data := #[] }], .bool false]) (by simp [results, Try.results17, go_sem]) rfl ⟨rfl, ((Kept.refl _).alloc _ _).alloc _ _⟩

/-- an instance's project -/
def projOf (pj : ByteArray) : ByteArray := if pj.toList.isEmpty then { data := #[100, 101, 102, 97, 117, 108, 116] } else pj

set_option maxHeartbeats 400000 in
theorem project_any (ty nm pj : ByteArray) (w : World) :
    Calls Try.prog 19 #[.agg #[.string ty, .string nm, .string pj]] w fun e w' => e = .returned (.string (projOf pj)) ∧ w' = w.alloc (.cells #[.string ty, .string nm, .string pj] 25) := by
  cases hp : pj.toList.isEmpty with
  | true =>
    have H : Hid (projOf pj = { data := #[100, 101, 102, 97, 117, 108, 116] }) := by
      show _ = _
      unfold projOf; rw [hp]; rfl
    go_enter Try.func19, Try.ntmps19
    go_wp2
    go_ret
    exact ⟨by rw [H.out]; rfl, rfl⟩
  | false =>
    have H : Hid (projOf pj = pj) := by
      show _ = _
      unfold projOf; rw [hp]; rfl
    go_enter Try.func19, Try.ntmps19
    go_wp2
    go_ret
    exact ⟨by rw [H.out]; rfl, rfl⟩

set_option maxHeartbeats 400000 in
theorem within_project (ty nm pj t : ByteArray) (h : (ty.toList == t.toList) = false) (ht : (t.toList == [115, 101, 114, 118, 101, 114]) = false)
    (hp : (t.toList == [112, 114, 111, 106, 101, 99, 116]) = true) (hi : (ty.toList == [105, 110, 115, 116, 97, 110, 99, 101]) = true) (w : World) :
    Calls Try.prog 17 #[.agg #[.string ty, .string nm, .string pj], .string t] w fun e w' => e = .returned (.tuple #[.agg #[.string { data := #[112, 114, 111, 106, 101, 99, 116] }, .string (projOf pj), .string { data := #[] }], .bool true]) ∧ Kept w w' := by
  go_enter Try.func17, Try.ntmps17
  go_wp2_with (go_at_call 19; refine (project_any _ _ _ _).mono ?_; rintro e w' ⟨rfl, rfl⟩)
  exact bodyPost_ret (v := .tuple #[.agg #[.string { data := #[112, 114, 111, 106, 101, 99, 116] }, .string (projOf pj), .string { data := #[] }], .bool true]) (by simp [results, Try.results17, go_sem]) rfl ⟨rfl, (((Kept.refl _).alloc _ _).alloc _ _).alloc _ _⟩

/-! ### two entities of the same texts -/
set_option maxHeartbeats 400000 in
theorem same_self (ty nm pj : ByteArray) (w : World) :
    Calls Try.prog 10 #[.agg #[.string ty, .string nm, .string pj], .agg #[.string ty, .string nm, .string pj]] w fun e w' => e = .returned (.bool true) ∧ Kept w w' := by
  go_enter Try.func10, Try.ntmps10
  go_wp2
  go_ret
  exact ⟨rfl, ((Kept.refl _).alloc _ _).alloc _ _⟩

/-! ### the exported alias -/
set_option maxHeartbeats 400000 in
theorem zzwithin_of {ty nm pj t ty' nm' pj' : ByteArray} {ok : Bool}
    (h : ∀ w, Calls Try.prog 17 #[.agg #[.string ty, .string nm, .string pj], .string t] w fun e w' => e = .returned (.tuple #[.agg #[.string ty', .string nm', .string pj'], .bool ok]) ∧ Kept w w') (w : World) :
    Calls Try.prog 9 #[.agg #[.string ty, .string nm, .string pj], .string t] w fun e w' => e = .returned (.tuple #[.agg #[.string ty', .string nm', .string pj'], .bool ok]) ∧ Kept w w' := by
  have H : Hid (∀ w, Calls Try.prog 17 #[.agg #[.string ty, .string nm, .string pj], .string t] w fun e w' => e = .returned (.tuple #[.agg #[.string ty', .string nm', .string pj'], .bool ok]) ∧ Kept w w') := h
  clear h
  go_enter Try.func9, Try.ntmps9
  go_wp2_with fail
  refine (H.out _).mono ?_
  rintro e w1 ⟨rfl, hk⟩
  obtain ⟨hc, hf⟩ := kept_cell hk
  have hz : w.heap.size + 1 < w1.heap.size := by have := hk.1.size; simp at this; omega
  go_wp2
  have hk0 := (((Kept.refl w).alloc _ _).alloc _ _).trans hk
  refine bodyPost_ret (v := .tuple #[.agg #[.string ty', .string nm', .string pj'], .bool ok]) (by simp [results, Try.results9, go_sem, hc]) rfl ⟨rfl, ?_⟩
  exact ((hk0.setCell (by simp) _).setCell (by simp) _).setCell (by simp) _
end Go.Proofs.Qxb6602300a.Wi
