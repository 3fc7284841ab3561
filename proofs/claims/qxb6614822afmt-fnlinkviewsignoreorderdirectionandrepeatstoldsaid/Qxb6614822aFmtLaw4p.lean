import Derived.Test.Qxb6614822aFmtZZL
import Derived.Test.Qxb6614822aFmtLah4
namespace Go.Proofs.Qxb6614822aFmt
open Go.RowKit Pcg

/-- a view that holds all of node k's linked nodes -/
def Whole (ls : List (Nat × Nat)) (nl c k n : Nat) (es : List Int) : Prop :=
  cnt (nbB ls nl k) n ≤ c ∧ es.length = cnt (nbB ls nl k) n ∧ ∀ j, j < n → nbB ls nl k j = true → cnt (nbB ls nl k) j < cnt (nbB ls nl k) n ∧ es.getD (cnt (nbB ls nl k) j) 0 = (j : Int)
/-- a view that holds some of them -/
def Some' (ls : List (Nat × Nat)) (nl c k n : Nat) (es : List Int) : Prop :=
  c < cnt (nbB ls nl k) n ∧ es.length = c ∧ ∃ nd : Nat → Nat, (∀ t, t < c → es.getD t 0 = (nd t : Int) ∧ nd t < n ∧ nbB ls nl k (nd t) = true) ∧ ∀ s t, s < t → t < c → nd s ≠ nd t

theorem NRun.view {ls : List (Nat × Nat)} {nl c k n S1 S2 : Nat} {es : List Int} (h : NRun ls nl c k S1 es S2) (hLs : Lks ls nl n) : Whole ls nl c k n es ∨ Some' ls nl c k n es := by
  obtain ⟨K, f, hf, h⟩ := h
  have hm := nbB_iff ls nl k
  have hK : cnt (nbB ls nl k) n = K := hf.len hm fun j hj => (nbr_bd hLs hj).1
  rcases h with ⟨a, _, rfl⟩ | ⟨a, f', r, rfl⟩
  · refine .inl ⟨by omega, by rw [mapR_len, hK], fun j hj hb => ?_⟩
    obtain ⟨h1, h2⟩ := hf.at hm hb
    exact ⟨by omega, by rw [mapR_get h1]; exact h2⟩
  · obtain ⟨g1, g2⟩ := r.good
    have g3 := g2 fun i j h1 h2 e => by have := hf.asc i j h1 h2; omega
    have hnd : ∀ t, t < c → (f' t).toNat < n ∧ nbB ls nl k (f' t).toNat = true ∧ f' t = ((f' t).toNat : Int) := fun t ht => by
      obtain ⟨u, u1, u2⟩ := g1 t (by omega)
      obtain ⟨j, j1, j2⟩ := hf.sub u u1
      have e : f' t = (j : Int) := by rw [u2]; exact j2
      rw [e, Int.toNat_natCast]
      exact ⟨(nbr_bd hLs j1).1, (hm j).2 j1, rfl⟩
    refine .inr ⟨by omega, mapR_len _ _, fun t => (f' t).toNat, fun t ht => ?_, fun s t h1 h2 e => ?_⟩
    · obtain ⟨q1, q2, q3⟩ := hnd t ht
      exact ⟨by rw [mapR_get ht]; exact q3, q1, q2⟩
    · have q1 := (hnd s (by omega)).2.2
      have q2 := (hnd t h2).2.2
      exact g3 s t h1 (by omega) (by simp only at e; omega)

theorem cnt_pos {m : Nat → Bool} : ∀ {n : Nat}, 0 < cnt m n → ∃ j, j < n ∧ m j = true
  | 0, h => absurd h (Nat.lt_irrefl _)
  | n + 1, h => by
    rw [cnt] at h
    cases hb : m n with
    | true => exact ⟨n, by omega, hb⟩
    | false =>
      rw [hb] at h
      obtain ⟨j, h1, h2⟩ := cnt_pos (m := m) (n := n) (by simpa using h)
      exact ⟨j, by omega, h2⟩

/-- the marked node at each place of a whole view -/
theorem Whole.each {ls : List (Nat × Nat)} {nl c k n : Nat} {es : List Int} (h : Whole ls nl c k n es) : ∀ t, t < es.length → ∃ j, j < n ∧ nbB ls nl k j = true ∧ es.getD t 0 = (j : Int) := by
  obtain ⟨_, h2, h3⟩ := h
  intro t ht
  rw [h2] at ht
  have key : ∀ x, t < cnt (nbB ls nl k) x → ∃ j, j < x ∧ nbB ls nl k j = true ∧ cnt (nbB ls nl k) j = t := by
    intro x
    induction x with
    | zero => exact fun h => absurd h (Nat.not_lt_zero _)
    | succ x ih =>
      intro hx
      by_cases e : t < cnt (nbB ls nl k) x
      · obtain ⟨j, j1, j2, j3⟩ := ih e
        exact ⟨j, by omega, j2, j3⟩
      · rw [cnt] at hx
        cases hb : nbB ls nl k x with
        | true =>
          rw [hb] at hx
          simp only [if_true] at hx
          exact ⟨x, by omega, hb, by omega⟩
        | false => rw [hb] at hx; simp at hx; omega
  obtain ⟨j, j1, j2, j3⟩ := key n ht
  have := (h3 j j1 j2).2
  rw [j3] at this
  exact ⟨j, j1, j2, this⟩

/-- what both laws ask of a view's entries -/
theorem NRun.each {ls : List (Nat × Nat)} {nl c k n S1 S2 : Nat} {es : List Int} (h : NRun ls nl c k S1 es S2) (hLs : Lks ls nl n) (hc : 2 ≤ c) :
    (∀ t, t < es.length → ∃ j, j < n ∧ nbB ls nl k j = true ∧ es.getD t 0 = (j : Int)) ∧ (0 < cnt (nbB ls nl k) n ↔ 0 < es.length) ∧ es.length ≤ n := by
  rcases h.view hLs with hw | ⟨h1, h2, nd, h3, h4⟩
  · have hl := cnt_le (m := nbB ls nl k) (n := n)
    exact ⟨hw.each, by rw [hw.2.1], by rw [hw.2.1]; exact hl⟩
  · have hl := cnt_le (m := nbB ls nl k) (n := n)
    refine ⟨fun t ht => ?_, by omega, by omega⟩
    obtain ⟨q1, q2, q3⟩ := h3 t (by omega)
    exact ⟨nd t, q2, q3, q1⟩

theorem asc_of_B {xs : List Int} {n : Nat} (h : ascB xs n = true) : ∀ i j, i < j → j < n → xs.getD i 0 < xs.getD j 0 := by
  unfold ascB at h
  rw [List.all_eq_true] at h
  have step : ∀ i, 1 ≤ i → i < n → xs.getD (i - 1) 0 < xs.getD i 0 := fun i h1 h2 => by
    have := h i (List.mem_range.2 h2)
    simp only [Bool.or_eq_true, beq_iff_eq, decide_eq_true_eq] at this
    omega
  intro i j h1
  induction j with
  | zero => omega
  | succ j ih =>
    intro h2
    have := step (j + 1) (by omega) h2
    rw [Nat.add_sub_cancel] at this
    by_cases e : i = j
    · subst e; exact this
    · have := ih (by omega) (by omega); omega

theorem lks_of {w : World} {p : Option Addr} {nl n : Nat} {xs : List Int} {vs : List (Int × Int)} {ls : List (Nat × Nat)} (h : LnkIn w p nl vs) (he : Ends ls nl n xs vs) : LksIn w p nl xs ls := by
  intro h0
  obtain ⟨b, o, rfl, hc⟩ := h h0
  refine ⟨b, o, rfl, fun t ht => ?_⟩
  obtain ⟨e1, e2⟩ := he.at' t ht
  rw [e1, e2]; exact hc t ht
end Go.Proofs.Qxb6614822aFmt
