import Derived.Test.Qxb6614822aFmtSmall
namespace Go.Proofs.Qxb6614822aFmt
open Go.RowKit Pcg

/-- one step of Floyd's sampling for node i: j + 1 numbers to draw from -/
def FStep (i : Int) (j S : Nat) (es : List Int) (S' : Nat) (es' : List Int) : Prop :=
  ∃ k : Int, 0 ≤ k ∧ k < (j : Int) + 1 ∧ Draw ((j : Int) + 1) S k S' ∧ es' = es ++ [if es.contains (other i k) then other i j else other i k]

/-- m steps, from j0 on -/
def FRun (i : Int) (j0 S0 : Nat) : Nat → Nat → List Int → Prop
  | 0, S, es => S = S0 ∧ es = []
  | m + 1, S, es => ∃ S1 es1, FRun i j0 S0 m S1 es1 ∧ FStep i (j0 + m) S1 es1 S es

/-- the views of the nodes 0 to k - 1 -/
def ORun (j0 c S0 : Nat) : Nat → Nat → List (List Int) → Prop
  | 0, S, Es => S = S0 ∧ Es = []
  | k + 1, S, Es => ∃ S1 Es1 es, ORun j0 c S0 k S1 Es1 ∧ FRun (k : Int) j0 S1 c S es ∧ Es = Es1 ++ [es]

theorem FStep.det {i : Int} {j S : Nat} {es : List Int} {S1 S2 : Nat} {e1 e2 : List Int} (h1 : FStep i j S es S1 e1) (h2 : FStep i j S es S2 e2) : S1 = S2 ∧ e1 = e2 := by
  obtain ⟨k1, _, _, d1, rfl⟩ := h1
  obtain ⟨k2, _, _, d2, rfl⟩ := h2
  obtain ⟨rfl, rfl⟩ := d1.det d2
  exact ⟨rfl, rfl⟩

theorem FRun.det {i : Int} {j0 S0 : Nat} : ∀ {m S1 S2 : Nat} {e1 e2 : List Int}, FRun i j0 S0 m S1 e1 → FRun i j0 S0 m S2 e2 → S1 = S2 ∧ e1 = e2
  | 0, _, _, _, _, h1, h2 => ⟨h1.1.trans h2.1.symm, h1.2.trans h2.2.symm⟩
  | m + 1, _, _, _, _, h1, h2 => by
    obtain ⟨T1, f1, r1, s1⟩ := h1
    obtain ⟨T2, f2, r2, s2⟩ := h2
    obtain ⟨rfl, rfl⟩ := FRun.det r1 r2
    exact s1.det s2

theorem ORun.det {j0 c S0 : Nat} : ∀ {k S1 S2 : Nat} {e1 e2 : List (List Int)}, ORun j0 c S0 k S1 e1 → ORun j0 c S0 k S2 e2 → S1 = S2 ∧ e1 = e2
  | 0, _, _, _, _, h1, h2 => ⟨h1.1.trans h2.1.symm, h1.2.trans h2.2.symm⟩
  | k + 1, _, _, _, _, h1, h2 => by
    obtain ⟨T1, F1, x1, r1, s1, rfl⟩ := h1
    obtain ⟨T2, F2, x2, r2, s2, rfl⟩ := h2
    obtain ⟨rfl, rfl⟩ := ORun.det r1 r2
    obtain ⟨rfl, rfl⟩ := s1.det s2
    exact ⟨rfl, rfl⟩

theorem other_inj {i a b : Int} (h : other i a = other i b) : a = b := by
  unfold other at h
  split at h <;> split at h <;> omega
theorem other_ne (i a : Int) : other i a ≠ i := by unfold other; split <;> omega
theorem other_bd {i a : Int} (h0 : 0 ≤ a) : 0 ≤ other i a ∧ other i a ≤ a + 1 := by unfold other; split <;> omega

theorem FRun.good {i : Int} {j0 S0 : Nat} : ∀ {m S : Nat} {es : List Int}, FRun i j0 S0 m S es → es.length = m ∧ es.Nodup ∧ ∀ e ∈ es, ∃ x : Int, 0 ≤ x ∧ x < (j0 + m : Nat) ∧ e = other i x
  | 0, _, _, h => by rw [h.2]; exact ⟨rfl, List.nodup_nil, fun e he => by cases he⟩
  | m + 1, S, es, h => by
    obtain ⟨S1, es1, r, k, k0, k1, d, rfl⟩ := h
    obtain ⟨hl, hnd, hall⟩ := FRun.good r
    refine ⟨by simp [hl], ?_, ?_⟩
    · rw [List.nodup_append]
      refine ⟨hnd, by simp, ?_⟩
      intro a ha b hb
      rw [List.mem_singleton] at hb
      subst hb
      by_cases hc : es1.contains (other i k) = true
      · rw [if_pos hc]
        intro e
        obtain ⟨x, _, x1, hx⟩ := hall a ha
        have := other_inj (hx.symm.trans e)
        omega
      · rw [if_neg hc]
        intro e
        rw [e] at ha
        exact hc (List.contains_iff_mem.2 ha)
    · intro e he
      rw [List.mem_append, List.mem_singleton] at he
      rcases he with he | he
      · obtain ⟨x, x0, x1, hx⟩ := hall e he
        exact ⟨x, x0, by omega, hx⟩
      · by_cases hc : es1.contains (other i k) = true
        · rw [if_pos hc] at he; exact ⟨_, by omega, by omega, he⟩
        · rw [if_neg hc] at he; exact ⟨_, k0, by omega, he⟩

theorem ORun.good {j0 c S0 : Nat} : ∀ {k S : Nat} {Es : List (List Int)}, ORun j0 c S0 k S Es → Es.length = k ∧ ∀ i (hi : i < Es.length), Es[i].length = c ∧ Es[i].Nodup ∧ ∀ e ∈ Es[i], 0 ≤ e ∧ e ≤ (j0 + c : Nat) ∧ e ≠ (i : Int)
  | 0, _, _, h => by rw [h.2]; exact ⟨rfl, fun i hi => absurd hi (Nat.not_lt_zero _)⟩
  | k + 1, S, Es, h => by
    obtain ⟨S1, Es1, es, r, f, rfl⟩ := h
    obtain ⟨hl, hall⟩ := ORun.good r
    obtain ⟨fl, fnd, fa⟩ := f.good
    refine ⟨by simp [hl], fun i hi => ?_⟩
    by_cases e : i < Es1.length
    · rw [List.getElem_append_left e]; exact hall i e
    · have hik : i = k := by simp at hi; omega
      have : (Es1 ++ [es])[i] = es := by
        rw [List.getElem_append_right (by omega)]
        simp
      rw [this]
      refine ⟨fl, fnd, fun x hx => ?_⟩
      obtain ⟨y, y0, y1, rfl⟩ := fa x hx
      have := other_bd (i := (k : Int)) y0
      rw [hik]
      exact ⟨this.1, by omega, other_ne _ _⟩
end Go.Proofs.Qxb6614822aFmt
