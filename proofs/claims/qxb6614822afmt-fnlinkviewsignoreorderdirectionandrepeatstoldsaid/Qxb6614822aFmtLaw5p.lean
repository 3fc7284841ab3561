import Derived.Test.Qxb6614822aFmtLaw4m
import Derived.Test.Qxb6614822aFmtLaw5
namespace Go.Proofs.Qxb6614822aFmt
open Go.RowKit Pcg

/-- the links reversed in order and direction, and then given again -/
def twice {α : Type} (d : α × α) (l : List (α × α)) (m : Nat) : List (α × α) := (List.range (2 * m)).map fun t => if t < m then ((l.getD (m - 1 - t) d).2, (l.getD (m - 1 - t) d).1) else l.getD (t - m) d
theorem twice_len {α : Type} (d : α × α) (l : List (α × α)) (m : Nat) : (twice d l m).length = 2 * m := by simp [twice]
theorem twice_lo {α : Type} {d : α × α} {l : List (α × α)} {m t : Nat} (h : t < m) : (twice d l m).getD t d = ((l.getD (m - 1 - t) d).2, (l.getD (m - 1 - t) d).1) := by
  unfold twice
  simp only [List.getD, List.getElem?_map]
  rw [List.getElem?_range (by omega)]
  simp [h]
theorem twice_hi {α : Type} {d : α × α} {l : List (α × α)} {m t : Nat} (h : t < m) : (twice d l m).getD (m + t) d = l.getD t d := by
  unfold twice
  simp only [List.getD, List.getElem?_map]
  rw [List.getElem?_range (by omega)]
  simp [show ¬ m + t < m by omega]

theorem Ends.twice {ls : List (Nat × Nat)} {m n : Nat} {xs : List Int} {vs : List (Int × Int)} (h : Ends ls m n xs vs) : Ends (twice (0, 0) ls m) (2 * m) n xs (twice (0, 0) vs m) := by
  refine ⟨twice_len _ _ _, fun t ht => ?_, fun t ht => ?_⟩
  · by_cases e : t < m
    · rw [twice_lo e]
      obtain ⟨a, b, c⟩ := h.bd (m - 1 - t) (by omega)
      exact ⟨b, a, Ne.symm c⟩
    · obtain ⟨u, rfl⟩ : ∃ u, t = m + u := ⟨t - m, by omega⟩
      rw [twice_hi (by omega)]; exact h.bd u (by omega)
  · by_cases e : t < m
    · rw [twice_lo e, twice_lo e]
      obtain ⟨a, b⟩ := h.at' (m - 1 - t) (by omega)
      exact ⟨b, a⟩
    · obtain ⟨u, rfl⟩ : ∃ u, t = m + u := ⟨t - m, by omega⟩
      rw [twice_hi (by omega), twice_hi (by omega)]; exact h.at' u (by omega)

theorem nbr_twice (ls : List (Nat × Nat)) (m i j : Nat) : nbr ls m i j ↔ nbr (twice (0, 0) ls m) (2 * m) i j := by
  constructor
  · rintro ⟨t, ht, h⟩
    refine ⟨m + t, by omega, ?_⟩
    rw [twice_hi ht]; exact h
  · rintro ⟨t, ht, h⟩
    by_cases e : t < m
    · refine ⟨m - 1 - t, by omega, ?_⟩
      rw [twice_lo e] at h
      rcases h with h | h
      · exact .inr (by rw [← Prod.eta (ls.getD (m - 1 - t) (0, 0))]; simp only [Prod.mk.injEq] at h ⊢; exact ⟨h.2, h.1⟩)
      · exact .inl (by rw [← Prod.eta (ls.getD (m - 1 - t) (0, 0))]; simp only [Prod.mk.injEq] at h ⊢; exact ⟨h.2, h.1⟩)
    · obtain ⟨u, rfl⟩ : ∃ u, t = m + u := ⟨t - m, by omega⟩
      rw [twice_hi (by omega)] at h
      exact ⟨u, by omega, h⟩
end Go.Proofs.Qxb6614822aFmt
