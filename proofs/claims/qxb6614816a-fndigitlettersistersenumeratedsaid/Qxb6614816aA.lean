import Derived.Test.Qxb6614816aRows
import Derived.WalkKit
import Derived.ProofKit
namespace Go.Proofs.Qxb6614816a
open Go.RowKit

def digB (x : Int) : Bool := decide (48 ≤ x ∧ x ≤ 57)
def letB (x : Int) : Bool := decide ((97 ≤ x ∧ x ≤ 122) ∨ (65 ≤ x ∧ x ≤ 90))

theorem ret_bool {a b : Bool} (h : a = b) : Ending.returned (.bool a) = .returned (.bool b) := by rw [h]

set_option maxHeartbeats 400000 in
theorem dig_any (x : Int) (w : World) (h0 : 0 ≤ x) (h1 : x ≤ 255) :
    Calls Try.prog 6 #[.int .u8 x] w fun e w' => e = .returned (.bool (digB x)) ∧ w' = w := by
  go_enter Try.func6, Try.ntmps6
  go_wp2
  all_goals go_ret
  · exact ⟨ret_bool (by unfold digB; simp; omega), rfl⟩
  · exact ⟨ret_bool (by unfold digB; simp; omega), rfl⟩

set_option maxHeartbeats 400000 in
theorem let_any (x : Int) (w : World) (h0 : 0 ≤ x) (h1 : x ≤ 255) :
    Calls Try.prog 7 #[.int .u8 x] w fun e w' => e = .returned (.bool (letB x)) ∧ w' = w := by
  go_enter Try.func7, Try.ntmps7
  go_wp2
  all_goals go_ret
  all_goals exact ⟨ret_bool (by unfold letB; rw [Bool.eq_iff_iff]; simp; omega), rfl⟩

theorem dig_b (x : Int) (w : World) (b : Bool) (h : digB x = b) (h0 : 0 ≤ x) (h1 : x ≤ 255) :
    Calls Try.prog 6 #[.int .u8 x] w fun e w' => e = .returned (.bool b) ∧ w' = w := by
  have := dig_any x w h0 h1; rwa [h] at this
theorem let_b (x : Int) (w : World) (b : Bool) (h : letB x = b) (h0 : 0 ≤ x) (h1 : x ≤ 255) :
    Calls Try.prog 7 #[.int .u8 x] w fun e w' => e = .returned (.bool b) ∧ w' = w := by
  have := let_any x w h0 h1; rwa [h] at this

def xo (a : Int) : Int := bits BinOp.xor IntKind.u8 a 32
theorem xo_all : ∀ n : Fin 256, letB (xo (n.val : Int)) = letB (n.val : Int) ∧ 0 ≤ xo (n.val : Int) ∧ xo (n.val : Int) ≤ 255 := by
  decide +kernel
theorem xo_ok (a : Int) (h0 : 0 ≤ a) (h1 : a ≤ 255) : letB (xo a) = letB a ∧ 0 ≤ xo a ∧ xo a ≤ 255 := by
  obtain ⟨n, rfl⟩ := Int.eq_ofNat_of_zero_le h0
  exact xo_all ⟨n, by omega⟩
theorem let_x (a : Int) (w : World) (h0 : 0 ≤ a) (h1 : a ≤ 255) (b : Bool) (h : letB a = b) :
    Calls Try.prog 7 #[.int .u8 (bits BinOp.xor IntKind.u8 a 32)] w fun e w' => e = .returned (.bool b) ∧ w' = w := by
  have hx := xo_ok a h0 h1
  have := let_any (xo a) w hx.2.1 hx.2.2
  rw [hx.1, h] at this
  exact this

def nd (k : Nat) : Int := if k ≤ 48 then 0 else if k ≤ 58 then (k : Int) - 48 else 10
def nl (k : Nat) : Int := if k ≤ 65 then 0 else if k ≤ 91 then (k : Int) - 65 else if k ≤ 97 then 26 else if k ≤ 123 then (k : Int) - 71 else 52

theorem nd_at (k : Nat) (v : Int) (h : (k ≤ 48 ∧ v = 0) ∨ (48 ≤ k ∧ k ≤ 58 ∧ v = (k : Int) - 48) ∨ (58 ≤ k ∧ v = 10)) : nd k = v := by
  unfold nd; repeat (first | (rw [if_pos (by assumption)]) | split)
  all_goals omega
theorem nl_at (k : Nat) (v : Int) (h : (k ≤ 65 ∧ v = 0) ∨ (65 ≤ k ∧ k ≤ 91 ∧ v = (k : Int) - 65) ∨ (91 ≤ k ∧ k ≤ 97 ∧ v = 26) ∨ (97 ≤ k ∧ k ≤ 123 ∧ v = (k : Int) - 71) ∨ (123 ≤ k ∧ v = 52)) : nl k = v := by
  unfold nl; repeat split
  all_goals omega

set_option maxRecDepth 20000 in
set_option maxHeartbeats 1000000 in
theorem law_walk (a : Int) (h0 : 0 ≤ a) (h1 : a ≤ 255) (w : World) :
    Calls Try.prog 3 #[.int .u8 a] w fun e w' => e = .returned (.bool true) ∧ w' = w := by
  have h3 : (digB a = true ∧ letB a = false) ∨ (digB a = false ∧ letB a = true) ∨ (digB a = false ∧ letB a = false) := by
    unfold digB letB; simp only [decide_eq_true_eq, decide_eq_false_iff_not]; omega
  rcases h3 with ⟨hd, hl⟩ | ⟨hd, hl⟩ | ⟨hd, hl⟩
  all_goals
    go_enter Try.func3, Try.ntmps3
    go_wp2_with (first
      | (go_at_call 6; refine (dig_b a _ _ hd (by omega) (by omega)).mono ?_; rintro e w' ⟨rfl, rfl⟩)
      | (go_at_call 7; refine (let_b a _ _ hl (by omega) (by omega)).mono ?_; rintro e w' ⟨rfl, rfl⟩)
      | (go_at_call 7; refine (let_x a _ (by omega) (by omega) _ hl).mono ?_; rintro e w' ⟨rfl, rfl⟩))
    clear hd hl
    go_loop [3, 4, 5] (fun x y i => ∃ k : Nat, k ≤ 256 ∧ i = .int .i64 k ∧ x = .int .i64 (nd k) ∧ y = .int .i64 (nl k)) (fun _ _ i => 256 - (intOf i).toNat)
    case atStart => exact ⟨0, by omega, rfl, rfl, rfl⟩
    case round =>
      obtain ⟨k, hk, rfl, hx, hy⟩ := hrel
      by_cases hlt : k < 256
      · have hc : k < 48 ∨ (48 ≤ k ∧ k < 58) ∨ (58 ≤ k ∧ k < 65) ∨ (65 ≤ k ∧ k < 91) ∨ (91 ≤ k ∧ k < 97) ∨ (97 ≤ k ∧ k < 123) ∨ (123 ≤ k) := by omega
        rcases hc with hc | ⟨hc, hc2⟩ | ⟨hc, hc2⟩ | ⟨hc, hc2⟩ | ⟨hc, hc2⟩ | ⟨hc, hc2⟩ | hc
        · rw [nd_at k (0) (by omega)] at hx; rw [nl_at k (0) (by omega)] at hy; subst hx hy
          have hdk : digB (k : Int) = false := by unfold digB; simp; omega
          have hlk : letB (k : Int) = false := by unfold letB; simp; omega
          go_wp2_with (first
            | (go_at_call 6; refine (dig_b (k : Int) _ _ hdk (by omega) (by omega)).mono ?_; rintro e w' ⟨rfl, rfl⟩)
            | (go_at_call 7; refine (let_b (k : Int) _ _ hlk (by omega) (by omega)).mono ?_; rintro e w' ⟨rfl, rfl⟩))
          go_round
          case rel => exact ⟨k + 1, by omega, by go_num, by rw [nd_at (k + 1) (0) (by omega)], by rw [nl_at (k + 1) (0) (by omega)]⟩
          case measure => simp [intOf]; omega
        · rw [nd_at k ((k : Int) - 48) (by omega)] at hx; rw [nl_at k (0) (by omega)] at hy; subst hx hy
          have e1 : ((k : Int) != 48 + ((k : Int) - 48)) = false := by simp; omega
          have e2 : decide (10 ≤ (k : Int) - 48) = false := by simp; omega
          have hdk : digB (k : Int) = true := by unfold digB; simp; omega
          have hlk : letB (k : Int) = false := by unfold letB; simp; omega
          go_wp2_with (first
            | (go_at_call 6; refine (dig_b (k : Int) _ _ hdk (by omega) (by omega)).mono ?_; rintro e w' ⟨rfl, rfl⟩)
            | (go_at_call 7; refine (let_b (k : Int) _ _ hlk (by omega) (by omega)).mono ?_; rintro e w' ⟨rfl, rfl⟩))
          go_round
          case rel => exact ⟨k + 1, by omega, by go_num, by rw [nd_at (k + 1) ((k : Int) - 48 + 1) (by omega)], by rw [nl_at (k + 1) (0) (by omega)]⟩
          case measure => simp [intOf]; omega
        · rw [nd_at k (10) (by omega)] at hx; rw [nl_at k (0) (by omega)] at hy; subst hx hy
          have hdk : digB (k : Int) = false := by unfold digB; simp; omega
          have hlk : letB (k : Int) = false := by unfold letB; simp; omega
          go_wp2_with (first
            | (go_at_call 6; refine (dig_b (k : Int) _ _ hdk (by omega) (by omega)).mono ?_; rintro e w' ⟨rfl, rfl⟩)
            | (go_at_call 7; refine (let_b (k : Int) _ _ hlk (by omega) (by omega)).mono ?_; rintro e w' ⟨rfl, rfl⟩))
          go_round
          case rel => exact ⟨k + 1, by omega, by go_num, by rw [nd_at (k + 1) (10) (by omega)], by rw [nl_at (k + 1) (0) (by omega)]⟩
          case measure => simp [intOf]; omega
        · rw [nd_at k (10) (by omega)] at hx; rw [nl_at k ((k : Int) - 65) (by omega)] at hy; subst hx hy
          have hdk : digB (k : Int) = false := by unfold digB; simp; omega
          have e1 : ((k : Int) != 65 + ((k : Int) - 65)) = false := by simp; omega
          have e2 : decide (52 ≤ (k : Int) - 65) = false := by simp; omega
          have hlk : letB (k : Int) = true := by unfold letB; simp; omega
          go_wp2_with (first
            | (go_at_call 6; refine (dig_b (k : Int) _ _ hdk (by omega) (by omega)).mono ?_; rintro e w' ⟨rfl, rfl⟩)
            | (go_at_call 7; refine (let_b (k : Int) _ _ hlk (by omega) (by omega)).mono ?_; rintro e w' ⟨rfl, rfl⟩))
          go_round
          case rel => exact ⟨k + 1, by omega, by go_num, by rw [nd_at (k + 1) (10) (by omega)], by rw [nl_at (k + 1) ((k : Int) - 65 + 1) (by omega)]⟩
          case measure => simp [intOf]; omega
        · rw [nd_at k (10) (by omega)] at hx; rw [nl_at k (26) (by omega)] at hy; subst hx hy
          have hdk : digB (k : Int) = false := by unfold digB; simp; omega
          have hlk : letB (k : Int) = false := by unfold letB; simp; omega
          go_wp2_with (first
            | (go_at_call 6; refine (dig_b (k : Int) _ _ hdk (by omega) (by omega)).mono ?_; rintro e w' ⟨rfl, rfl⟩)
            | (go_at_call 7; refine (let_b (k : Int) _ _ hlk (by omega) (by omega)).mono ?_; rintro e w' ⟨rfl, rfl⟩))
          go_round
          case rel => exact ⟨k + 1, by omega, by go_num, by rw [nd_at (k + 1) (10) (by omega)], by rw [nl_at (k + 1) (26) (by omega)]⟩
          case measure => simp [intOf]; omega
        · rw [nd_at k (10) (by omega)] at hx; rw [nl_at k ((k : Int) - 71) (by omega)] at hy; subst hx hy
          have hdk : digB (k : Int) = false := by unfold digB; simp; omega
          have e1 : ((k : Int) != 97 + ((k : Int) - 71) - 26) = false := by simp; omega
          have e2 : decide (52 ≤ (k : Int) - 71) = false := by simp; omega
          have hlk : letB (k : Int) = true := by unfold letB; simp; omega
          go_wp2_with (first
            | (go_at_call 6; refine (dig_b (k : Int) _ _ hdk (by omega) (by omega)).mono ?_; rintro e w' ⟨rfl, rfl⟩)
            | (go_at_call 7; refine (let_b (k : Int) _ _ hlk (by omega) (by omega)).mono ?_; rintro e w' ⟨rfl, rfl⟩))
          go_round
          case rel => exact ⟨k + 1, by omega, by go_num, by rw [nd_at (k + 1) (10) (by omega)], by rw [nl_at (k + 1) ((k : Int) - 71 + 1) (by omega)]⟩
          case measure => simp [intOf]; omega
        · rw [nd_at k (10) (by omega)] at hx; rw [nl_at k (52) (by omega)] at hy; subst hx hy
          have hdk : digB (k : Int) = false := by unfold digB; simp; omega
          have hlk : letB (k : Int) = false := by unfold letB; simp; omega
          go_wp2_with (first
            | (go_at_call 6; refine (dig_b (k : Int) _ _ hdk (by omega) (by omega)).mono ?_; rintro e w' ⟨rfl, rfl⟩)
            | (go_at_call 7; refine (let_b (k : Int) _ _ hlk (by omega) (by omega)).mono ?_; rintro e w' ⟨rfl, rfl⟩))
          go_round
          case rel => exact ⟨k + 1, by omega, by go_num, by rw [nd_at (k + 1) (10) (by omega)], by rw [nl_at (k + 1) (52) (by omega)]⟩
          case measure => simp [intOf]; omega
      · obtain rfl : k = 256 := by omega
        rw [show nd 256 = 10 from rfl] at hx; rw [show nl 256 = 52 from rfl] at hy; subst hx hy
        go_wp2
        go_ret
        exact ⟨rfl, rfl⟩
end Go.Proofs.Qxb6614816a
