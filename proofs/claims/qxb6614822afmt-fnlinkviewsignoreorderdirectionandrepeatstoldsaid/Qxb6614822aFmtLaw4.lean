import Derived.Test.Qxb6614822aFmtLaw4p
import Derived.Test.Qxb6614822aFmtLaw2
namespace Go.Proofs.Qxb6614822aFmt
open Go.RowKit Pcg

set_option maxRecDepth 20000 in
set_option maxHeartbeats 1000000 in
theorem s4_big (a aL : Option Addr) (n c nl cl : Nat) (view s1 s2 : Int) (w : World) (hn : 512 < n ∨ 4096 < nl) (hm : n ≤ maxLen) (hml : nl ≤ maxLen) :
    Calls Tryf.prog 4 #[.slice a n c, .slice aL nl cl, .int .i64 view, .int .u64 s1, .int .u64 s2] w
      fun e w' => e = .returned (.bool true) ∧ Below w.heap.size w w' := by
  unfold maxLen at hm hml
  by_cases h : 1048576 < n
  · clear hn
    go_enter Tryf.func4, Tryf.ntmps4
    go_wp2_with (first | (go_at_call 13; go_in) | fail)
    go_ret
    exact ⟨rfl, Below.refl _ _⟩
  · by_cases h2 : 1048576 < nl
    · clear hn
      go_enter Tryf.func4, Tryf.ntmps4
      go_wp2_with (first | (go_at_call 13; go_in) | fail)
      go_ret
      exact ⟨rfl, Below.refl _ _⟩
    · by_cases h3 : 1048576 < n + nl
      · clear hn
        go_enter Tryf.func4, Tryf.ntmps4
        go_wp2_with (first | (go_at_call 13; go_in) | fail)
        go_ret
        exact ⟨rfl, Below.refl _ _⟩
      · by_cases h4 : 512 < n
        · clear hn
          go_enter Tryf.func4, Tryf.ntmps4
          go_wp2_with (first | (go_at_call 13; go_in) | fail)
          go_ret
          exact ⟨rfl, Below.refl _ _⟩
        · have h5 : 4096 < nl := by omega
          clear hn
          go_enter Tryf.func4, Tryf.ntmps4
          go_wp2_with (first | (go_at_call 13; go_in) | fail)
          go_ret
          exact ⟨rfl, Below.refl _ _⟩

set_option maxRecDepth 20000 in
set_option maxHeartbeats 1000000 in
theorem s4_cond (a aL : Option Addr) (n c nl cl : Nat) (xs : List Int) (view s1 s2 : Int) (w : World) (hn : n ≤ 512) (hnl : nl ≤ 4096) (hx : IntsIn .u64 w a n xs)
    (hcond : ascB xs n = false ∨ view < 2 ∨ ¬ view.tmod 2 = 0) :
    Calls Tryf.prog 4 #[.slice a n c, .slice aL nl cl, .int .i64 view, .int .u64 s1, .int .u64 s2] w
      fun e w' => e = .returned (.bool true) ∧ Below w.heap.size w w' := by
  have hA := asc_any a n c xs w (by omega) hx
  clear hx
  by_cases h2 : view < 2
  · clear hcond hA
    go_enter Tryf.func4, Tryf.ntmps4
    go_wp2_with (first | (go_at_call 13; go_in) | fail)
    go_ret
    exact ⟨rfl, Below.refl _ _⟩
  · by_cases h3 : view.tmod 2 = 0
    · have h4 : ascB xs n = false := by
        rcases hcond with h | h | h
        · exact h
        · exact absurd h h2
        · exact absurd h3 h
      rw [h4] at hA
      have h3' : (view % 2 != 0) = false := by
        rw [Int.tmod_eq_emod_of_nonneg (by omega)] at h3; simp [h3]
      clear hcond h3 h4
      go_enter Tryf.func4, Tryf.ntmps4
      go_wp2_with (first | (go_at_call 9; refine hA.mono ?_; rintro e w' ⟨rfl, q, rfl⟩) | (go_at_call 13; go_in) | fail)
      go_ret
      exact ⟨rfl, below_drewN2 (Below.refl _ _) q⟩
    · have h3' : (view % 2 != 0) = true := by
        rw [Int.tmod_eq_emod_of_nonneg (by omega)] at h3; simp; omega
      clear hcond h3 hA
      go_enter Tryf.func4, Tryf.ntmps4
      go_wp2_with (first | (go_at_call 13; go_in) | fail)
      go_ret
      exact ⟨rfl, Below.refl _ _⟩
end Go.Proofs.Qxb6614822aFmt
