/-
  Seat b6601329a: the walks of zzHexDigit and of escapedRune at a text that opens with an escape.
-/
import Derived.Test.Qxb6601329aRows
import Derived.WalkKit
import Derived.ProofKit
import Derived.OpenShut
import Derived.ShutString
import Derived.WalkSpells
namespace Go.Proofs.Qxb6601329a.Ru
open Go.ChangeShapes Go.WideShapes Go.ChangeAt Go.RowKit

/-- the byte of a hexadecimal digit -/
def hx (d : Int) (up : Bool) : Int := if d < 10 then 48 + d else if up then 55 + d else 87 + d

theorem hx_lo {d : Int} (h : d < 10) (up : Bool) : hx d up = 48 + d := by unfold hx; rw [if_pos h]
theorem hx_up {d : Int} (h : ¬ d < 10) : hx d true = 55 + d := by unfold hx; rw [if_neg h]; rfl
theorem hx_dn {d : Int} (h : ¬ d < 10) : hx d false = 87 + d := by unfold hx; rw [if_neg h]; rfl
theorem ret_u8 {a b : Int} (h : a = b) : Ending.returned (.int .u8 a) = .returned (.int .u8 b) := by rw [h]

set_option maxHeartbeats 400000 in
theorem hex_any (d : Int) (up : Bool) (h0 : 0 ≤ d) (h1 : d ≤ 15) (w : World) :
    Calls Try.prog 13 #[.int .i32 d, .bool up] w fun e w' => e = .returned (.int .u8 (hx d up)) ∧ w = w' := by
  by_cases hd : d < 10
  · go_enter Try.func13, Try.ntmps13
    go_wp2
    go_ret
    exact ⟨ret_u8 (hx_lo hd up).symm, rfl⟩
  · cases up
    · have H : Hid (hx d false = 87 + d) := hx_dn hd
      go_enter Try.func13, Try.ntmps13
      go_wp2
      go_ret
      exact ⟨ret_u8 (by rw [H.out]; omega), rfl⟩
    · have H : Hid (hx d true = 55 + d) := hx_up hd
      go_enter Try.func13, Try.ntmps13
      go_wp2
      go_ret
      exact ⟨ret_u8 (by rw [H.out]; omega), rfl⟩

/-- the value of the first k digits -/
def V (D : Nat → Int) : Nat → Int
  | 0 => 0
  | k + 1 => V D k * 16 + D k
theorem V_bd {D : Nat → Int} (hD : ∀ k, 0 ≤ D k ∧ D k ≤ 15) : ∀ k, k ≤ 3 → 0 ≤ V D k ∧ V D k ≤ 4095 := by
  intro k hk
  have h0 := hD 0
  have h1 := hD 1
  have h2 := hD 2
  match k, hk with
  | 0, _ => simp [V]
  | 1, _ => simp [V]; omega
  | 2, _ => simp [V]; omega
  | 3, _ => simp [V]; omega

theorem or4 (v x : Int) (v0 : 0 ≤ v) (v1 : v ≤ 4095) (h0 : 0 ≤ x) (h1 : x < 16) : bits .or .i32 (v * 16) x = v * 16 + x :=
  bits_join .i32 31 (by decide) wraps_i32 4 (v * 16) x (by omega) (by omega) (by omega) h0 (by omega) (by omega)
theorem and15 (x : Int) (h0 : 0 ≤ x) (h1 : x < 2147483648) : bits .and .i32 x 15 = x % 16 := bits_mask .i32 31 (by decide) wraps_i32 4 (by decide) x h0 (by omega)
theorem i32_eq {a b : Int} (h : a = b) : Value.int .i32 a = .int .i32 b := by rw [h]

set_option maxHeartbeats 1000000 in
theorem rune_any (g N cap : Nat) (D : Nat → Int) (U : Nat → Bool) (hD : ∀ k, 0 ≤ D k ∧ D k ≤ 15) (hN : 6 ≤ N) (hc : N ≤ cap) (hm : cap ≤ 2097152) (w : World)
    (c0 : w.cell? ⟨g, 0, none⟩ = some (.int .u8 92)) (c1 : w.cell? ⟨g, 1, none⟩ = some (.int .u8 117)) (cs : ∀ k, k < 4 → w.cell? ⟨g, 2 + k, none⟩ = some (.int .u8 (hx (D k) (U k)))) :
    Calls Try.prog 25 #[.slice (some ⟨g, 0, none⟩) N cap] w fun e w' => e = .returned (.tuple #[.int .i32 (V D 4), .bool true]) ∧ w = w' := by
  have CS := (show Hid _ from cs)
  have HD := (show Hid _ from hD)
  clear cs hD
  go_enter Try.func25, Try.ntmps25
  go_wp2
  go_loop [4, 25] (fun r i => ∃ k : Nat, k ≤ 4 ∧ i = .int .i64 k ∧ r = .int .i32 (V D k)) (fun _ i => 4 - (intOf i).toNat)
  case atStart => exact ⟨0, by omega, rfl, rfl⟩
  case round =>
    obtain ⟨k, hk, rfl, rfl⟩ := hrel
    clear c0 c1
    by_cases hlt : k < 4
    · have hck := CS.out k hlt
      obtain ⟨v0, v1⟩ := V_bd HD.out k (by omega)
      obtain ⟨d0, d1⟩ := HD.out k
      have HV : Hid (V D (k + 1) = V D k * 16 + D k) := rfl
      clear CS HD
      generalize D k = d at *
      generalize U k = up at *
      generalize hv : V D k = v at *
      clear hv
      by_cases hd : d < 10
      · rw [hx_lo hd] at hck
        go_wp2
        go_round
        case rel => exact ⟨k + 1, by omega, by go_num, i32_eq (by rw [HV.out, or4 _ _ v0 v1 (by omega) (by omega)]; omega)⟩
        case measure => simp [intOf]; omega
      · cases up
        · rw [hx_dn hd] at hck
          go_wp2
          go_round
          case rel => exact ⟨k + 1, by omega, by go_num, i32_eq (by rw [HV.out, or4 _ _ v0 v1 (by omega) (by omega)]; omega)⟩
          case measure => simp [intOf]; omega
        · rw [hx_up hd] at hck
          go_wp2
          go_round
          case rel => exact ⟨k + 1, by omega, by go_num, i32_eq (by rw [HV.out, or4 _ _ v0 v1 (by omega) (by omega)]; omega)⟩
          case measure => simp [intOf]; omega
    · have hke : k = 4 := by omega
      subst hke
      clear CS HD
      go_wp2
      go_ret2
      exact ⟨rfl, rfl⟩

theorem zzrune_any (g N cap : Nat) (D : Nat → Int) (U : Nat → Bool) (hD : ∀ k, 0 ≤ D k ∧ D k ≤ 15) (hN : 6 ≤ N) (hc : N ≤ cap) (hm : cap ≤ 2097152) (w : World)
    (c0 : w.cell? ⟨g, 0, none⟩ = some (.int .u8 92)) (c1 : w.cell? ⟨g, 1, none⟩ = some (.int .u8 117)) (cs : ∀ k, k < 4 → w.cell? ⟨g, 2 + k, none⟩ = some (.int .u8 (hx (D k) (U k)))) :
    Calls Try.prog 10 #[.slice (some ⟨g, 0, none⟩) N cap] w fun e w' => e = .returned (.tuple #[.int .i32 (V D 4), .bool true]) ∧ w = w' := by
  have H : Hid (Calls Try.prog 25 #[.slice (some ⟨g, 0, none⟩) N cap] w fun e w' => e = .returned (.tuple #[.int .i32 (V D 4), .bool true]) ∧ w = w') := rune_any g N cap D U hD hN hc hm w c0 c1 cs
  clear hD c0 c1 cs
  generalize V D 4 = v at *
  go_enter Try.func10, Try.ntmps10
  go_wp2_with (go_at_call 25; refine H.out.mono ?_; rintro e w' ⟨rfl, rfl⟩)
  go_ret2
  exact ⟨rfl, rfl⟩
end Go.Proofs.Qxb6601329a.Ru
