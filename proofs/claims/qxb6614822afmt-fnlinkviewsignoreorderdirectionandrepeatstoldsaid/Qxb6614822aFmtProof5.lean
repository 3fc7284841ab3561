import Derived.Test.Qxb6614822aFmtFrameC
import Derived.Test.Qxb6614822aFmtPre
import Derived.Test.Qxb6614822aFmtLaw5m
namespace Go.Proofs.Qxb6614822aFmt
open Go.RowKit Pcg

theorem walk5 : WalkS5 := by
  intro a0 a1 len0 cap0 len1 cap1 z0 z1 view s1 s2 w hrow hrowL wf2 wf3 wf4
  obtain ⟨hm, hl, hin, hnil⟩ := rowInI hrow
  obtain ⟨hmL, hinL, hnilL⟩ := rowInL hrowL
  by_cases hbig : 512 < len0 ∨ 4096 < len1
  · exact s5_big a0 a1 len0 cap0 len1 cap1 view s1 s2 w hbig hm hmL
  · by_cases hcond : ascB (z0.take len0) len0 = false ∨ view < 2 ∨ ¬ view.tmod 2 = 0
    · exact s5_cond a0 a1 len0 cap0 len1 cap1 _ view s1 s2 w (by omega) (by omega) hin hcond
    · have h1 : ascB (z0.take len0) len0 = true := by
        cases h : ascB (z0.take len0) len0 with
        | true => rfl
        | false => exact absurd (.inl h) hcond
      have h2 : 2 ≤ view := Int.not_lt.1 fun h => hcond (.inr (.inl h))
      have h3 : view.tmod 2 = 0 := Classical.byContradiction fun h => hcond (.inr (.inr h))
      have h4 := i64Of wf2
      obtain ⟨c, rfl⟩ := Int.eq_ofNat_of_zero_le (show 0 ≤ view by omega)
      rw [Int.tmod_eq_emod_of_nonneg (by omega)] at h3
      exact s5_main a0 a1 len0 cap0 len1 cap1 c _ z1 s1 s2 w (by omega) (by omega) hin hl hnil hinL hnilL h1 (by omega) (by omega) (by omega) (wordOf wf3) (wordOf wf4)

/-- THE STATEMENT -/
theorem fnLinkViewsIgnoreOrderDirectionAndRepeats_proved : Rows.FnLinkViewsIgnoreOrderDirectionAndRepeatsToldSaid := card5 walk5
end Go.Proofs.Qxb6614822aFmt
