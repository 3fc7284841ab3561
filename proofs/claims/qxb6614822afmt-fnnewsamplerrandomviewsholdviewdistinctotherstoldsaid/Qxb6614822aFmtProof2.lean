import Derived.Test.Qxb6614822aFmtFrameA
import Derived.Test.Qxb6614822aFmtLaw2m
namespace Go.Proofs.Qxb6614822aFmt
open Go.RowKit Pcg

theorem word_of {x : Int} (h : (Lit.int .u64 x).wf = true) : Word x := by
  have hb : 0 ≤ x ∧ x ≤ 18446744073709551615 := by
    have := h
    simp [Lit.wf, IntKind.min, IntKind.max, IntKind.signed, IntKind.bits] at this
    omega
  unfold Word; omega
theorem i64_of {x : Int} (h : (Lit.int .i64 x).wf = true) : -9223372036854775808 ≤ x ∧ x ≤ 9223372036854775807 := by
  have := h
  simp [Lit.wf, IntKind.min, IntKind.max, IntKind.signed, IntKind.bits] at this
  omega

theorem rowIn {w : World} {a : Option Addr} {n c : Nat} {zs : List Int} (h : IsRow .u64 w a n c zs) : n ≤ maxLen ∧ (zs.take n).length = n ∧ IntsIn .u64 w a n (zs.take n) ∧ (a = none → n = 0 ∧ c = 0) := by
  rcases h with ⟨rfl, rfl, rfl, rfl⟩ | ⟨x, rfl, hlc, hcm, hz, hcell, _⟩
  · exact ⟨Nat.zero_le _, rfl, fun h => absurd h (Nat.lt_irrefl _), fun _ => ⟨rfl, rfl⟩⟩
  · refine ⟨by omega, by simp; omega, IntsIn.of_cells fun i hi => ?_, fun e => by cases e⟩
    rw [hcell i (by omega)]
    simp [List.getD, hi]

theorem walk2 : WalkS2 := by
  intro a0 len0 cap0 z0 view heal swap sel prop s1 s2 w hrow wf1 _ _ _ _ wf6 wf7
  obtain ⟨hm, hl, hin, hnil⟩ := rowIn hrow
  by_cases hn : len0 ≤ 256
  · by_cases hcond : ascB (z0.take len0) len0 = false ∨ view < 2 ∨ ¬ view.tmod 2 = 0 ∨ (len0 : Int) - 1 < view
    · exact s2_cond a0 len0 cap0 _ view heal swap sel prop s1 s2 w hn hin hcond
    · have h1 : ascB (z0.take len0) len0 = true := by
        cases h : ascB (z0.take len0) len0 with
        | true => rfl
        | false => exact absurd (.inl h) hcond
      have h2 : 2 ≤ view := Int.not_lt.1 fun h => hcond (.inr (.inl h))
      have h3 : view.tmod 2 = 0 := Classical.byContradiction fun h => hcond (.inr (.inr (.inl h)))
      have h4 : view ≤ (len0 : Int) - 1 := Int.not_lt.1 fun h => hcond (.inr (.inr (.inr h)))
      obtain ⟨c, rfl⟩ := Int.eq_ofNat_of_zero_le (show 0 ≤ view by omega)
      rw [Int.tmod_eq_emod_of_nonneg (by omega)] at h3
      exact s2_main a0 len0 cap0 c _ heal swap sel prop s1 s2 w hn hin hl hnil h1 (by omega) (by omega) (len0 - 1 - c) (by omega) (word_of wf6) (word_of wf7)
  · exact s2_big a0 len0 cap0 view heal swap sel prop s1 s2 w (by omega) hm

/-- THE STATEMENT -/
theorem fnNewSamplerRandomViewsHoldViewDistinctOthers_proved : Rows.FnNewSamplerRandomViewsHoldViewDistinctOthersToldSaid := card2 walk2
end Go.Proofs.Qxb6614822aFmt
