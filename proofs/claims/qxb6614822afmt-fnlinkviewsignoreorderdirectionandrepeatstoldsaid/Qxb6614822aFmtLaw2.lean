import Derived.Test.Qxb6614822aFmtZZR
namespace Go.Proofs.Qxb6614822aFmt
open Go.RowKit Pcg

set_option maxRecDepth 20000 in
set_option maxHeartbeats 1000000 in
theorem s2_big (a : Option Addr) (n c : Nat) (view heal swap sel prop s1 s2 : Int) (w : World) (hn : 256 < n) (hm : n ≤ maxLen) :
    Calls Tryf.prog 3 #[.slice a n c, .int .i64 view, .int .i64 heal, .int .i64 swap, .int .i64 sel, .int .i64 prop, .int .u64 s1, .int .u64 s2] w
      fun e w' => e = .returned (.bool true) ∧ Below w.heap.size w w' := by
  unfold maxLen at hm
  by_cases h : 1048576 < n
  · go_enter Tryf.func3, Tryf.ntmps3
    go_wp2
    go_ret
    exact ⟨rfl, Below.refl _ _⟩
  · go_enter Tryf.func3, Tryf.ntmps3
    go_wp2
    go_ret
    exact ⟨rfl, Below.refl _ _⟩

theorem below_of_grown {w w' : World} (h : w.grownBy w' none) : Below w.heap.size w w' := ⟨h.os, h.tape, h.output, h.size, fun k hk => h.block k hk (by simp)⟩
theorem below_drewN2 {B : Nat} {a w : World} (h : Below B a w) (q : Nat) : Below B a (w.drewN q) := ⟨h.os, h.tape, h.output, h.size, h.block⟩

set_option maxRecDepth 20000 in
set_option maxHeartbeats 1000000 in
theorem s2_cond (a : Option Addr) (n c : Nat) (xs : List Int) (view heal swap sel prop s1 s2 : Int) (w : World) (hn : n ≤ 256) (hx : IntsIn .u64 w a n xs)
    (hcond : ascB xs n = false ∨ view < 2 ∨ ¬ view.tmod 2 = 0 ∨ (n : Int) - 1 < view) :
    Calls Tryf.prog 3 #[.slice a n c, .int .i64 view, .int .i64 heal, .int .i64 swap, .int .i64 sel, .int .i64 prop, .int .u64 s1, .int .u64 s2] w
      fun e w' => e = .returned (.bool true) ∧ Below w.heap.size w w' := by
  have hA := asc_any a n c xs w (by omega) hx
  clear hx
  cases hb : ascB xs n with
  | false =>
    rw [hb] at hA
    clear hcond hb
    go_enter Tryf.func3, Tryf.ntmps3
    go_wp2_with (first | (go_at_call 9; refine hA.mono ?_; rintro e w' ⟨rfl, q, rfl⟩) | (go_at_call 8; go_in) | fail)
    go_ret
    exact ⟨rfl, below_drewN2 (Below.refl _ _) q⟩
  | true =>
    rw [hb] at hA hcond
    clear hb
    by_cases h2 : view < 2
    · clear hcond
      go_enter Tryf.func3, Tryf.ntmps3
      go_wp2_with (first | (go_at_call 9; refine hA.mono ?_; rintro e w' ⟨rfl, q, rfl⟩) | (go_at_call 8; go_in) | fail)
      go_ret
      exact ⟨rfl, below_drewN2 (Below.refl _ _) q⟩
    · by_cases h3 : view.tmod 2 = 0
      · have h4 : (n : Int) - 1 < view := by
          rcases hcond with h | h | h | h
          · cases h
          · exact absurd h h2
          · exact absurd h3 h
          · exact h
        clear hcond
        have h3' : (view % 2 != 0) = false := by
          rw [Int.tmod_eq_emod_of_nonneg (by omega)] at h3; simp [h3]
        clear h3
        go_enter Tryf.func3, Tryf.ntmps3
        go_wp2_with (first | (go_at_call 9; refine hA.mono ?_; rintro e w' ⟨rfl, q, rfl⟩) | (go_at_call 8; go_in) | fail)
        go_ret
        exact ⟨rfl, below_drewN2 (Below.refl _ _) q⟩
      · have h3' : (view % 2 != 0) = true := by
          rw [Int.tmod_eq_emod_of_nonneg (by omega)] at h3; simp; omega
        clear hcond h3
        go_enter Tryf.func3, Tryf.ntmps3
        go_wp2_with (first | (go_at_call 9; refine hA.mono ?_; rintro e w' ⟨rfl, q, rfl⟩) | (go_at_call 8; go_in) | fail)
        go_ret
        exact ⟨rfl, below_drewN2 (Below.refl _ _) q⟩
end Go.Proofs.Qxb6614822aFmt
