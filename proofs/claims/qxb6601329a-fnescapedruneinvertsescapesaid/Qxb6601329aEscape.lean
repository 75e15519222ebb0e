/-
  Seat b6601329a: the law FnEscapedRuneInvertsEscape.
-/
import Derived.Test.Qxb6601329aRune
import Derived.Laws.CopyOwn
import Derived.Deep.DeepCutAuto
namespace Go.Proofs.Qxb6601329a.Ru
open Go.ChangeShapes Go.WideShapes Go.ChangeAt Go.RowKit

theorem Try.info5 : (Try.prog.info? 5).map (fun i => (i.zero, i.size, i.bytes)) = some (some (.int .u8 0), 1, 1) := by kernel_rfl
theorem Try.size5 : (Try.prog.info? 5).map (·.size) = some 1 := by kernel_rfl

/-- in w the slice value (a, n) holds the bytes Z -/
def Bytes (w : World) (a : Option Addr) (n : Nat) (Z : List Int) : Prop :=
  Z.length = n ∧ (n = 0 ∨ ∃ b off, a = some ⟨b, off, none⟩ ∧ b < w.heap.size ∧ ∀ i, i < n → w.cell? ⟨b, off + i, none⟩ = some (.int .u8 (Z.getD i 0)))
theorem Bytes.below {w w' : World} {a : Option Addr} {n B : Nat} {L : List Int} (h : Bytes w a n L) (hb : Below B w w') (hB : w.heap.size ≤ B) : Bytes w' a n L := by
  obtain ⟨hl, h⟩ := h
  refine ⟨hl, ?_⟩
  rcases h with h | ⟨b, off, rfl, hlt, hc⟩
  · exact .inl h
  · refine .inr ⟨b, off, rfl, by have := hb.size; omega, fun i hi => ?_⟩
    rw [hb.cell (p := ⟨b, off + i, none⟩) (by show b < B; omega)]
    exact hc i hi
theorem Bytes.own {w : World} {base g n cap : Nat} {L : List Int} (h : w.ownsRow base 5 1 (.slice (some ⟨g, 0, none⟩) n cap) n (L.map (Value.int .u8))) : Bytes w (some ⟨g, 0, none⟩) n L := by
  have hl : L.length = n := by simpa using h.1
  refine ⟨hl, .inr ⟨g, 0, rfl, (h.lt g rfl).2, fun i hi => ?_⟩⟩
  rw [Nat.zero_add, h.cellAt i (by omega)]
  simp [List.getD, List.getElem?_eq_getElem (show i < L.length by omega)]
theorem Bytes.at {w : World} {a : Option Addr} {n k : Nat} {L : List Int} (h : Bytes w a n L) (hk : k < n) :
    ∃ b off, a = some ⟨b, off, none⟩ ∧ b < w.heap.size ∧ w.cell? ⟨b, off + k, none⟩ = some (.int .u8 (L.getD k 0)) := by
  rcases h.2 with h0 | ⟨b, off, e, hb, hc⟩
  · omega
  · exact ⟨b, off, e, hb, hc k hk⟩

/-- an owned row that fills its array, and back -/
theorem row_of_own {w : World} {base g n : Nat} {e : TypeId} {xs : List Value} (h : w.ownsRow base e 1 (.slice (some ⟨g, 0, none⟩) n n) n xs) : w.heap[g]? = some (.cells xs.toArray e (0, 0)) := by
  rcases h.2 with ⟨h', _⟩ | ⟨g', cap', cur, h', _, hg, _, _, hs, htake⟩
  · simp at h'
  · simp only [Value.slice.injEq, Option.some.injEq, Addr.mk.injEq, and_true, true_and] at h'
    obtain ⟨rfl, rfl⟩ := h'
    rw [List.take_of_length_le (by simp; omega)] at htake
    rw [hg, ← htake]
theorem own_of_row {w : World} {base g n : Nat} {e : TypeId} {xs : List Value} (h : w.heap[g]? = some (.cells xs.toArray e (0, 0))) (hl : xs.length = n) (hb : base ≤ g) (hm : n ≤ maxLen) : w.ownsRow base e 1 (.slice (some ⟨g, 0, none⟩) n n) n xs :=
  ⟨by rw [Nat.mul_one]; exact hl, .inr ⟨g, n, xs.toArray, rfl, hb, h, Nat.le_refl _, hm, by rw [Nat.mul_one]; simpa using hl, by rw [Nat.mul_one]; exact List.take_of_length_le (by simp; omega)⟩⟩
theorem splice_all {α : Type} (L cs : List α) (h : L.length = cs.length) : splice L 0 cs = cs := by
  unfold splice; rw [List.take_zero, List.nil_append, Nat.zero_add, List.drop_of_length_le (by omega), List.append_nil]
/-- what a copy reads -/
theorem src_cells {w w1 : World} {x : Addr} {n : Nat} {Z : List Int} (h : Bytes w (some x) n Z) (hb : Below w.heap.size w w1) :
    ∀ j v, (Z.map (Value.int .u8))[j]? = some v → w1.cell? (x.add j) = some v := by
  intro j v hv
  have hj : j < n := by
    have := (List.getElem?_eq_some_iff.1 hv).1
    simpa [h.1] using this
  obtain ⟨b, off, e, hlt, hc⟩ := h.at hj
  obtain rfl := Option.some.inj e
  rw [Go.WideShapes.add_plain, hb.cell (p := ⟨b, off + j, none⟩) hlt, hc, ← hv]
  simp [List.getD, List.getElem?_eq_getElem (show j < Z.length by have := h.1; omega)]

theorem two_cells (w : World) (x y : Value) : ∀ j u, [x, y][j]? = some u → (w.alloc (.cells #[x, y] 5)).cell? ((⟨w.heap.size, 0, none⟩ : Addr).add j) = some u := by
  intro j u hj
  match j, hj with
  | 0, hj => simp at hj; subst hj; simp [Addr.add]
  | 1, hj => simp at hj; subst hj; simp [Addr.add]
theorem one_cell (w : World) (x : Value) : ∀ j u, [x][j]? = some u → (w.alloc (.cells #[x] 5)).cell? ((⟨w.heap.size, 0, none⟩ : Addr).add j) = some u := by
  intro j u hj
  match j, hj with
  | 0, hj => simp at hj; subst hj; simp [Addr.add]
theorem one_int (z : Int) : ∀ u ∈ [Value.int .u8 z], u.oneCell' = true := by
  intro u hu; simp at hu; subst hu; rfl
theorem two_int (y z : Int) : ∀ u ∈ [Value.int .u8 y, Value.int .u8 z], u.oneCell' = true := by
  intro u hu; simp at hu; rcases hu with rfl | rfl <;> rfl

theorem pushed {w0 wr w' : World} {o : Obj} (hbel : Below w0.heap.size w0 wr) (hgrow : (wr.alloc o).grownBy w' (some w0.heap.size)) : Below w0.heap.size w0 w' :=
  (hbel.alloc hbel.size o).grown hgrow (by have := hbel.size; simp; omega) (fun k hk => by cases hk; exact Nat.le_refl _)

/-! ### the four digits -/
def Dr (r : Int) : Nat → Int
  | 0 => r / 4096 % 16
  | 1 => r / 256 % 16
  | 2 => r / 16 % 16
  | _ => r % 16
def Um (m : Int) : Nat → Bool
  | 0 => bits .and .u8 (m / 8) 1 == 1
  | 1 => bits .and .u8 (m / 4) 1 == 1
  | 2 => bits .and .u8 (m / 2) 1 == 1
  | _ => bits .and .u8 m 1 == 1
theorem Dr_bd (r : Int) : ∀ k, 0 ≤ Dr r k ∧ Dr r k ≤ 15 := by
  intro k
  match k with
  | 0 => show 0 ≤ r / 4096 % 16 ∧ r / 4096 % 16 ≤ 15; omega
  | 1 => show 0 ≤ r / 256 % 16 ∧ r / 256 % 16 ≤ 15; omega
  | 2 => show 0 ≤ r / 16 % 16 ∧ r / 16 % 16 ≤ 15; omega
  | k + 3 => show 0 ≤ r % 16 ∧ r % 16 ≤ 15; omega
theorem V_Dr (r : Int) (h0 : 0 ≤ r) (h1 : r ≤ 65535) : V (Dr r) 4 = r := by
  show (((0 * 16 + r / 4096 % 16) * 16 + r / 256 % 16) * 16 + r / 16 % 16) * 16 + r % 16 = r
  omega
def head6 (r m : Int) : List Value :=
  [.int .u8 92, .int .u8 117, .int .u8 (hx (Dr r 0) (Um m 0)), .int .u8 (hx (Dr r 1) (Um m 1)), .int .u8 (hx (Dr r 2) (Um m 2)), .int .u8 (hx (Dr r 3) (Um m 3))]
theorem head_at (r m : Int) (X : List Value) (k : Nat) (hk : k < 4) : (head6 r m ++ X)[2 + k]? = some (.int .u8 (hx (Dr r k) (Um m k))) := by
  match k, hk with
  | 0, _ => rfl
  | 1, _ => rfl
  | 2, _ => rfl
  | 3, _ => rfl
theorem take_next {A : List Int} {k : Nat} (h : k < A.length) : A.take (k + 1) = A.take k ++ [A.getD k 0] := by
  rw [List.take_succ_eq_append_getElem h]
  simp [List.getD, List.getElem?_eq_getElem h]
theorem ret_bool {a b : Bool} (h : a = b) : Ending.returned (.bool a) = .returned (.bool b) := by rw [h]

/-! ### the guard -/
theorem guard_ok (r m : Int) (a : Option Addr) (n cap : Nat) (w : World) (h : n ≤ 1048576) :
    Calls Try.prog 12 #[.int .i32 r, .int .u8 m, .slice a n cap] w fun e w' => e = .returned (.bool true) ∧ w = w' := by
  go_enter Try.func12, Try.ntmps12
  go_wp2
  go_ret
  exact ⟨rfl, rfl⟩
theorem guard_no (r m : Int) (a : Option Addr) (n cap : Nat) (w : World) (hm : n ≤ maxLen) (h : 1048576 < n) :
    Calls Try.prog 12 #[.int .i32 r, .int .u8 m, .slice a n cap] w fun e w' => e = .returned (.bool false) ∧ w = w' := by
  unfold maxLen at hm
  go_enter Try.func12, Try.ntmps12
  go_wp2
  go_ret
  exact ⟨rfl, rfl⟩

/-! ### the law where the escape is written -/
set_option maxHeartbeats 2000000 in
set_option maxRecDepth 100000 in
theorem law_core (r m : Int) (hr0 : 0 ≤ r) (hr1 : r ≤ 65535) (_hm0 : 0 ≤ m) (_hm1 : m ≤ 255) (w : World) (a : Option Addr) (n cap : Nat) (Z : List Int) (hZ : Bytes w a n Z) (hn : n ≤ 1048576) (hnil : a = none → n = 0 ∧ cap = 0) :
    Calls Try.prog 4 #[.int .i32 r, .int .u8 m, .slice a n cap] w fun e w' => e = .returned (.bool true) ∧ Below w.heap.size w w' := by
  obtain ⟨i0, hi, hz0, hz1, hz2⟩ := info_parts Try.info5
  have hneq := fun wx => run_neq_slice_nil_any (P := Try.prog) wx 22 5 a n cap 0 0 Try.underlying22
  have HZ : Hid (Bytes w a n Z) := hZ
  have HN : Hid (a = none → n = 0 ∧ cap = 0) := hnil
  have HL : Hid (Z.length = n) := hZ.1
  clear hZ hnil
  go_enter Try.func4, Try.ntmps4
  go_upto_if 30 with (go_at_call 12; refine (guard_ok _ _ _ _ _ _ hn).mono ?_; rintro e w' ⟨rfl, rfl⟩)
  go_cut [2] from 15 to 37 (fun v wx => ∃ aa, v = .slice aa n n ∧ Bytes wx aa n Z ∧ Below w.heap.size w wx)
  case first =>
    cases a with
    | none =>
      obtain ⟨rfl, rfl⟩ := HN.out rfl
      go_wp2_with fail
      go_meet
      case rel => exact ⟨none, rfl, HZ.out, Below.refl _ _⟩
    | some x =>
      clear HN
      go_upto_region 9 with (at_make; refine wpList_make_full _ rfl _ _ 22 rfl w.heap.size 5 i0 (.int .u8 0) 1 Try.underlying22 hi hz0 hz1 .i64 .i64 _ _ n rfl rfl rfl rfl (by rw [hz2]; omega) (by unfold maxLen; omega) (by simp) ?_; intro w1 hown hgrow)
      have hrow := row_of_own hown
      have hlen : (madeCells (Value.int .u8 0).cells (n * 1)).toList.length = n := by simpa using hown.1
      have hbel : Below w.heap.size w w1 := (Below.refl _ w).grown hgrow (Nat.le_refl _) (fun k hk => by cases hk)
      have hsrc := src_cells HZ.out hbel
      obtain ⟨cs, hcs⟩ : ∃ cs, cs = Z.map (Value.int .u8) := ⟨_, rfl⟩
      have hcl : cs.length = n := by rw [hcs, List.length_map]; exact HL.out
      have h1c : ∀ v ∈ cs, v.oneCell' = true := by
        rw [hcs]; intro v hv
        obtain ⟨z, _, rfl⟩ := List.mem_map.1 hv
        rfl
      rw [← hcs] at hsrc
      have HCS : Hid (cs = Z.map (Value.int .u8)) := hcs
      clear hcs
      generalize (madeCells (Value.int .u8 0).cells (n * 1)).toList = Y at *
      have HR := (show Hid _ from hrow)
      have HY := (show Hid _ from hlen)
      have HS := (show Hid _ from hsrc)
      have H1 := (show Hid _ from h1c)
      have HC := (show Hid _ from hcl)
      clear hrow hlen hsrc h1c hcl hown hgrow
      go_wp2_with ((with_reducible show wpList _ _ _ _ _ _); refine wpList_copy_splice rfl (.tmp 34) (.tmp 35) 22 22 rfl 5 Try.underlying22 Try.size5 _ _ n n n cap rfl rfl w.heap.size 0 Y 5 HR.out cs (by rw [HC.out]; exact (Nat.min_self n).symm) (fun _ => ⟨rfl, x, rfl, HS.out⟩) (by rw [HC.out, HY.out]; omega) H1.out w.heap.size w hbel (Nat.le_refl _) ?_; intro w2 HG2 hB2)
      go_meet
      case rel =>
        refine ⟨_, rfl, ?_, hB2⟩
        have hg := HG2.out
        rw [splice_all _ _ (by rw [HC.out, HY.out]), HCS.out] at hg
        exact Bytes.own (own_of_row (base := w.heap.size) hg (by rw [List.length_map]; exact HL.out) (Nat.le_refl _) (by unfold maxLen; omega))
  case rest =>
  obtain ⟨aa, rfl, hZ2, hb2⟩ := hcut
  clear HN HZ hneq
  obtain ⟨w2, hw2⟩ : ∃ x, x = wc := ⟨_, rfl⟩
  subst hw2
  go_wp2_with (first | (at_make; refine wpList_make_own _ rfl _ _ 22 rfl w2.heap.size 5 i0 (.int .u8 0) 1 Try.underlying22 hi hz0 hz1 .i64 .i64 _ (6 + n) rfl rfl (by omega) (by rw [hz2]; omega) (by unfold maxLen; omega) (by simp) ?_; intro w3 hown3 hgrow3) | (at_builtin; refine wpList_append_fits _ rfl (.tmp 42) (.tmp 43) 22 rfl w2.heap.size 5 i0 1 Try.underlying22 hi hz1 w2.heap.size 0 (6 + n) [] rfl (hown3.alloc _) ⟨w3.heap.size, 0, none⟩ 2 2 [.int .u8 92, .int .u8 117] rfl rfl (two_cells _ _ _) (two_int _ _) (by omega) ?_; intro w4 hown4 hgrow4))
  have hb4 : Below w2.heap.size w2 w4 := pushed ((Below.refl _ w2).grown hgrow3 (Nat.le_refl _) (fun k hk => by cases hk)) hgrow4
  clear hgrow3 hgrow4 hown3
  have e3 : bits .and .i32 (r / 4096) 15 = r / 4096 % 16 := and15 _ (by omega) (by omega)
  have e2 : bits .and .i32 (r / 256) 15 = r / 256 % 16 := and15 _ (by omega) (by omega)
  have e1 : bits .and .i32 (r / 16) 15 = r / 16 % 16 := and15 _ (by omega) (by omega)
  have e0 : bits .and .i32 r 15 = r % 16 := and15 _ (by omega) (by omega)
  refine wp_loop_rounds 5 ?_
  rw [rounds_succ]
  go_wp2_with (first | (go_at_call 13; refine (hex_any _ _ (by omega) (by omega) _).mono ?_; rintro e w' ⟨rfl, rfl⟩) | (at_builtin; refine wpList_append_fits _ rfl (.tmp 61) (.tmp 65) 22 rfl w2.heap.size 5 i0 1 Try.underlying22 hi hz1 w2.heap.size 2 (6 + n) _ rfl (hown4.alloc _) ⟨w4.heap.size, 0, none⟩ 1 1 [.int .u8 (hx _ _)] rfl rfl (one_cell _ _) (one_int _) (by omega) ?_; intro w5 hown5 hgrow5))
  have hb5 := pushed hb4 hgrow5
  clear hown4 hgrow5 hb4
  rw [rounds_succ]
  go_wp2_with (first | (go_at_call 13; refine (hex_any _ _ (by omega) (by omega) _).mono ?_; rintro e w' ⟨rfl, rfl⟩) | (at_builtin; refine wpList_append_fits _ rfl (.tmp 61) (.tmp 65) 22 rfl w2.heap.size 5 i0 1 Try.underlying22 hi hz1 w2.heap.size 3 (6 + n) _ rfl (hown5.alloc _) ⟨w5.heap.size, 0, none⟩ 1 1 [.int .u8 (hx _ _)] rfl rfl (one_cell _ _) (one_int _) (by omega) ?_; intro w6 hown6 hgrow6))
  have hb6 := pushed hb5 hgrow6
  clear hown5 hgrow6 hb5
  rw [rounds_succ]
  go_wp2_with (first | (go_at_call 13; refine (hex_any _ _ (by omega) (by omega) _).mono ?_; rintro e w' ⟨rfl, rfl⟩) | (at_builtin; refine wpList_append_fits _ rfl (.tmp 61) (.tmp 65) 22 rfl w2.heap.size 5 i0 1 Try.underlying22 hi hz1 w2.heap.size 4 (6 + n) _ rfl (hown6.alloc _) ⟨w6.heap.size, 0, none⟩ 1 1 [.int .u8 (hx _ _)] rfl rfl (one_cell _ _) (one_int _) (by omega) ?_; intro w7 hown7 hgrow7))
  have hb7 := pushed hb6 hgrow7
  clear hown6 hgrow7 hb6
  rw [rounds_succ]
  go_wp2_with (first | (go_at_call 13; refine (hex_any _ _ (by omega) (by omega) _).mono ?_; rintro e w' ⟨rfl, rfl⟩) | (at_builtin; refine wpList_append_fits _ rfl (.tmp 61) (.tmp 65) 22 rfl w2.heap.size 5 i0 1 Try.underlying22 hi hz1 w2.heap.size 5 (6 + n) _ rfl (hown7.alloc _) ⟨w7.heap.size, 0, none⟩ 1 1 [.int .u8 (hx _ _)] rfl rfl (one_cell _ _) (one_int _) (by omega) ?_; intro w8 hown8 hgrow8))
  have hb8 := pushed hb7 hgrow8
  clear hown7 hgrow8 hb7
  rw [rounds_succ]
  clear e0 e1 e2 e3
  go_wp2_with fail
  have hown : w8.ownsRow w2.heap.size 5 1 (.slice (some ⟨w2.heap.size, 0, none⟩) 6 (6 + n)) 6 (head6 r m) := hown8
  clear hown8
  go_loopw [8, 12] (fun v i wr => ∃ k : Nat, k ≤ n ∧ i = .int .i64 k ∧ v = .slice (some ⟨w2.heap.size, 0, none⟩) (6 + k) (6 + n) ∧ wr.ownsRow w2.heap.size 5 1 (.slice (some ⟨w2.heap.size, 0, none⟩) (6 + k) (6 + n)) (6 + k) (head6 r m ++ (Z.take k).map (Value.int .u8)) ∧ Below w2.heap.size w2 wr)
    (fun _ i _ => n - (intOf i).toNat)
  case atStart => exact ⟨0, Nat.zero_le _, rfl, rfl, by rw [List.take_zero, List.map_nil, List.append_nil]; exact hown, hb8⟩
  case round =>
  clear hown hb8
  obtain ⟨k, hk, rfl, rfl, hown, hbel⟩ := hrel
  by_cases hlt : k < n
  · obtain ⟨b, off, ha, hb, hc⟩ := hZ2.at hlt
    have hck : wr.cell? ⟨b, off + k, none⟩ = some (.int .u8 (Z.getD k 0)) := (hbel.cell (p := ⟨b, off + k, none⟩) hb).trans hc
    have HT : Hid (head6 r m ++ (Z.take (k + 1)).map (Value.int .u8) = head6 r m ++ (Z.take k).map (Value.int .u8) ++ [.int .u8 (Z.getD k 0)]) := by
      show _ = _
      rw [take_next (by rw [HL.out]; exact hlt), List.map_append, ← List.append_assoc]
      rfl
    subst ha
    clear hc hZ2 HL
    generalize Z.getD k 0 = z at *
    go_wp2_with (at_builtin; refine wpList_append_fits _ rfl (.tmp 73) (.tmp 78) 22 rfl w2.heap.size 5 i0 1 Try.underlying22 hi hz1 w2.heap.size (6 + k) (6 + n) _ rfl (hown.alloc _) ⟨wr.heap.size, 0, none⟩ 1 1 [.int .u8 z] rfl rfl (one_cell _ _) (one_int _) (by omega) ?_; intro w9 hown9 hgrow9)
    have hb9 := pushed hbel hgrow9
    go_roundw
    case rel => exact ⟨k + 1, by omega, by go_num, rfl, by rw [HT.out]; exact hown9, hb9⟩
    case measure => simp [intOf]; omega
  have hke : n = k := by omega
  subst hke
  have C : Hid (Calls Try.prog 10 #[.slice (some ⟨w2.heap.size, 0, none⟩) (6 + n) (6 + n)] wr fun e w' => e = .returned (.tuple #[.int .i32 r, .bool true]) ∧ wr = w') := by
    have := zzrune_any w2.heap.size (6 + n) (6 + n) (Dr r) (Um m) (Dr_bd r) (by omega) (Nat.le_refl _) (by omega) wr ((hown.cellAt 0 (by omega)).trans rfl) ((hown.cellAt 1 (by omega)).trans rfl) (fun k hk => (hown.cellAt (2 + k) (by omega)).trans (head_at r m _ k hk))
    rw [V_Dr r hr0 hr1] at this
    exact this
  have hbe := hb2.trans (hbel.mono hb2.size)
  clear hown hbel hlt hk hZ2 HL hb2
  go_wp2_with (go_at_call 10; refine C.out.mono ?_; rintro e w' ⟨rfl, rfl⟩)
  go_ret
  exact ⟨ret_bool (by simp), hbe⟩

/-! ### the law, whatever the input -/
theorem law (r m : Int) (hm0 : 0 ≤ m) (hm1 : m ≤ 255) (w : World) (a : Option Addr) (n cap : Nat) (Z : List Int) (hZ : Bytes w a n Z) (hn : n ≤ maxLen) (hnil : a = none → n = 0 ∧ cap = 0) :
    Calls Try.prog 4 #[.int .i32 r, .int .u8 m, .slice a n cap] w fun e w' => e = .returned (.bool true) ∧ Below w.heap.size w w' := by
  by_cases h1 : n ≤ 1048576
  · by_cases h2 : r < 0
    · clear hZ hnil
      go_enter Try.func4, Try.ntmps4
      go_wp2_with (go_at_call 12; refine (guard_ok _ _ _ _ _ _ h1).mono ?_; rintro e w' ⟨rfl, rfl⟩)
      go_ret
      exact ⟨rfl, Below.refl _ _⟩
    · by_cases h3 : 65535 < r
      · clear hZ hnil
        go_enter Try.func4, Try.ntmps4
        go_wp2_with (go_at_call 12; refine (guard_ok _ _ _ _ _ _ h1).mono ?_; rintro e w' ⟨rfl, rfl⟩)
        go_ret
        exact ⟨rfl, Below.refl _ _⟩
      · exact law_core r m (by omega) (by omega) hm0 hm1 w a n cap Z hZ h1 hnil
  · have h1' : 1048576 < n := by omega
    clear hZ hnil
    go_enter Try.func4, Try.ntmps4
    go_wp2_with (go_at_call 12; refine (guard_no _ _ _ _ _ _ hn h1').mono ?_; rintro e w' ⟨rfl, rfl⟩)
    go_ret
    exact ⟨rfl, Below.refl _ _⟩
end Go.Proofs.Qxb6601329a.Ru
