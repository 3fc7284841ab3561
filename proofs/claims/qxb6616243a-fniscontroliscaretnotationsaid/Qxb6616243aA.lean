import Derived.Test.Qxb6616243aRows
import Derived.WalkKit
import Derived.ProofKit
namespace Go.Proofs.Qxb6616243a
open Go.RowKit

theorem xo_all : ∀ n : Fin 256, (n.val < 64 → bits BinOp.xor IntKind.u8 (n.val : Int) 64 = (n.val : Int) + 64) ∧ (64 ≤ n.val → n.val < 128 → bits BinOp.xor IntKind.u8 (n.val : Int) 64 = (n.val : Int) - 64) := by
  decide +kernel
theorem xo_lo (a : Int) (h0 : 0 ≤ a) (h1 : a < 64) : bits BinOp.xor IntKind.u8 a 64 = a + 64 := by
  obtain ⟨n, rfl⟩ := Int.eq_ofNat_of_zero_le h0
  exact (xo_all ⟨n, by omega⟩).1 (by show n < 64; omega)
theorem xo_hi (a : Int) (h0 : 64 ≤ a) (h1 : a < 128) : bits BinOp.xor IntKind.u8 a 64 = a - 64 := by
  obtain ⟨n, rfl⟩ := Int.eq_ofNat_of_zero_le (show 0 ≤ a by omega)
  exact (xo_all ⟨n, by omega⟩).2 (by show 64 ≤ n; omega) (by show n < 128; omega)

set_option maxRecDepth 20000 in
set_option maxHeartbeats 1000000 in
theorem law_walk (a : Int) (h0 : 0 ≤ a) (h1 : a ≤ 255) (w : World) :
    Calls Try.prog 3 #[.int .u8 a] w fun e w' => e = .returned (.bool true) ∧ w' = w := by
  have hc : a < 32 ∨ (32 ≤ a ∧ a < 64) ∨ (64 ≤ a ∧ a ≤ 126) ∨ a = 127 ∨ 128 ≤ a := by omega
  rcases hc with hc | ⟨hc, hd⟩ | ⟨hc, hd⟩ | rfl | hc
  · have hx := xo_lo a (by omega) (by omega)
    have e1 : (a + 64 == 63) = false := by simp; omega
    have e3 : decide (a + 64 ≤ 95) = true := by simp; omega
    go_enter Try.func3, Try.ntmps3
    go_wp2
    go_ret
    exact ⟨rfl, rfl⟩
  · have hx := xo_lo a (by omega) (by omega)
    have e1 : (a + 64 == 63) = false := by simp; omega
    have e3 : decide (a + 64 ≤ 95) = false := by simp; omega
    have e4 : decide (a < 32) = false := by simp; omega
    have e2 : (a == 127) = false := by simp; omega
    go_enter Try.func3, Try.ntmps3
    go_wp2
    go_ret
    exact ⟨rfl, rfl⟩
  · have hx := xo_hi a (by omega) (by omega)
    have e1 : (a - 64 == 63) = false := by simp; omega
    have e3 : decide (64 ≤ a - 64) = false := by simp; omega
    have e4 : decide (a < 32) = false := by simp; omega
    have e2 : (a == 127) = false := by simp; omega
    go_enter Try.func3, Try.ntmps3
    go_wp2
    go_ret
    exact ⟨rfl, rfl⟩
  · have hx : bits BinOp.xor IntKind.u8 127 64 = 63 := by decide +kernel
    go_enter Try.func3, Try.ntmps3
    go_wp2
    go_ret
    exact ⟨rfl, rfl⟩
  · have e4 : decide (a < 32) = false := by simp; omega
    have e2 : (a == 127) = false := by simp; omega
    go_enter Try.func3, Try.ntmps3
    go_wp2
    go_ret
    exact ⟨rfl, rfl⟩
end Go.Proofs.Qxb6616243a
