import Derived.Test.Qxb6614822aFmtIds
import Derived.CellFam
namespace Go.Proofs.Qxb6614822aFmt
open Go.RowKit

set_option maxRecDepth 20000 in
set_option maxHeartbeats 1000000 in
theorem id_any (p : Option Addr) (n c : Nat) (x : Int) (xs : List Int) (w : World) (hn : n ≤ 1000000) (hx : IntsIn .u64 w p n xs) :
    Calls Tryf.prog 28 #[.slice p n c, .int .u64 x] w fun e w' => (e = .returned (.int .i64 (-1)) ∨ ∃ k : Nat, k < n ∧ xs.getD k 0 = x ∧ e = .returned (.int .i64 k)) ∧ w' = w := by
  go_enter Tryf.func28, Tryf.ntmps28
  go_wp2
  go_loopg [5, 6] n (fun t vi vj wr => ∃ i j : Nat, vi = .int .i64 i ∧ vj = .int .i64 j ∧ i ≤ j ∧ j ≤ n ∧ j ≤ i + t ∧ wr = w)
  case atStart => exact ⟨0, n, rfl, rfl, by omega, by omega, by omega, rfl⟩
  case round =>
    obtain ⟨i, j, rfl, rfl, h1, h2, h3, hw⟩ := hrel
    subst hw
    by_cases hlt : i < j
    · obtain ⟨b, o, rfl, hc⟩ := hx (by omega)
      obtain ⟨h, hh⟩ : ∃ h : Nat, i + (j - i) / 2 = h := ⟨_, rfl⟩
      have hh1 : i ≤ h := by omega
      have hh2 : h < j := by omega
      have c0 := hc h (by omega)
      generalize xs.getD h 0 = y at c0
      have e0 : (i : Int) + ((j : Int) - i) / 2 = h := by omega
      clear hc hx
      go_wp2
      · go_roundg (gk - 1)
        case measure => omega
        case rel => exact ⟨h + 1, j, by go_num, rfl, by omega, by omega, by omega, rfl⟩
      · go_roundg (gk - 1)
        case measure => omega
        case rel => exact ⟨i, h, rfl, by go_num, by omega, by omega, by omega, rfl⟩
    · by_cases hn2 : i < n
      · obtain ⟨b, o, rfl, hc⟩ := hx (by omega)
        have c0 := hc i (by omega)
        generalize hy : xs.getD i 0 = y at c0
        have HY : Hid (xs.getD i 0 = y) := hy
        clear hc hx hy
        by_cases hyx : y = x
        · subst hyx
          go_wp2
          go_ret
          exact ⟨.inr ⟨i, hn2, HY.out, rfl⟩, rfl⟩
        · have hb : (y == x) = false := by simpa using hyx
          go_wp2
          go_ret
          exact ⟨.inl rfl, rfl⟩
      · go_wp2
        go_ret
        exact ⟨.inl rfl, rfl⟩
end Go.Proofs.Qxb6614822aFmt
