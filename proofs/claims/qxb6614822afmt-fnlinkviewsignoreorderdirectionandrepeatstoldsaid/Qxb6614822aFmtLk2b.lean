import Derived.Test.Qxb6614822aFmtLk2a
namespace Go.Proofs.Qxb6614822aFmt
open Go.RowKit Go.Sort Pcg

/-- the shares of the nodes from k on -/
def GivF (ls : List (Nat × Nat)) (nl k : Nat) (h : Nat → Int) : Prop :=
  ∀ i, k ≤ i → (∀ t, t < deg ls nl i → ∃ j, nbr ls nl i j ∧ h (pre ls nl i + t) = (j : Int)) ∧ (∀ j, nbr ls nl i j → ∃ t, t < deg ls nl i ∧ h (pre ls nl i + t) = (j : Int))

theorem GivF.next {ls : List (Nat × Nat)} {nl k off : Nat} {h h' : Nat → Int} (H : GivF ls nl k h) (ho : deg ls nl k = 0 ∨ off = pre ls nl k) (he : ∀ i, ¬ (off ≤ i ∧ i < off + deg ls nl k) → h' i = h i) : GivF ls nl (k + 1) h' := by
  intro i hi
  obtain ⟨a, b⟩ := H i (by omega)
  have hp := pre_mono ls nl hi
  have e : pre ls nl (k + 1) = pre ls nl k + deg ls nl k := rfl
  have hh : ∀ t, h' (pre ls nl i + t) = h (pre ls nl i + t) := fun t => he _ (by rcases ho with ho | ho <;> omega)
  refine ⟨fun t ht => ?_, fun j hj => ?_⟩
  · obtain ⟨j, j1, j2⟩ := a t ht
    exact ⟨j, j1, by rw [hh]; exact j2⟩
  · obtain ⟨t, t1, t2⟩ := b j hj
    exact ⟨t, t1, by rw [hh]; exact t2⟩

theorem NbF.congr {ls : List (Nat × Nat)} {nl i K : Nat} {f f' : Nat → Int} (h : NbF ls nl i f K) (e : ∀ t, t < K → f t = f' t) : NbF ls nl i f' K := by
  refine ⟨fun a b h1 h2 => ?_, fun t ht => ?_, fun j hj => ?_⟩
  · rw [← e a (by omega), ← e b h2]; exact h.asc a b h1 h2
  · rw [← e t ht]; exact h.sub t ht
  · obtain ⟨t, t1, t2⟩ := h.all j hj
    exact ⟨t, t1, by rw [← e t t1]; exact t2⟩

theorem nbr_bd {ls : List (Nat × Nat)} {nl n i j : Nat} (hLs : Lks ls nl n) (h : nbr ls nl i j) : j < n ∧ j ≠ i := by
  obtain ⟨m, hm, h | h⟩ := h
  · have := hLs m hm; rw [h] at this; exact ⟨this.2.1, Ne.symm this.2.2⟩
  · have := hLs m hm; rw [h] at this; exact ⟨this.1, this.2.2⟩

open Classical in
theorem NbF.le {ls : List (Nat × Nat)} {nl n i K : Nat} {f : Nat → Int} (h : NbF ls nl i f K) (hLs : Lks ls nl n) (hi : i < n) : K ≤ n - 1 := by
  have hm : ∀ j, (fun j => decide (nbr ls nl i j)) j = true ↔ nbr ls nl i j := fun j => by simp
  have e := h.len hm fun j hj => (nbr_bd hLs hj).1
  have hz : (fun j => decide (nbr ls nl i j)) i = false := by
    simp only [decide_eq_false_iff_not]
    exact fun hn => (nbr_bd hLs hn).2 rfl
  have c1 := cnt_set (m := fun j => decide (nbr ls nl i j)) hz hi
  have c2 := cnt_le (m := bset (fun j => decide (nbr ls nl i j)) i true) (n := n)
  omega

theorem fsw_set (h : Nat → Int) (off m j t : Nat) : fset (fset h (off + m) (h (off + j))) (off + j) (h (off + m)) (off + t) = fsw (fun t => h (off + t)) m j t := by
  unfold fset fsw
  by_cases e : t = j
  · subst e; rw [if_pos rfl, if_pos rfl]
  · rw [if_neg (by omega), if_neg e]
    by_cases e2 : t = m
    · subst e2; rw [if_pos rfl, if_pos rfl]
    · rw [if_neg (by omega), if_neg e2]

/-- what sort and compact of node k's share leave -/
theorem nb_of' {ls : List (Nat × Nat)} {nl k off off' N K : Nat} {h : Nat → Int} {d1 d2 : Array Int} (hsub : ∀ t, t < N → ∃ j, nbr ls nl k j ∧ h (off + t) = (j : Int)) (hall : ∀ j, nbr ls nl k j → ∃ t, t < N ∧ h (off + t) = (j : Int))
    (ho : N = 0 ∨ off' = off) (hP : PermIn 0 N (cutA h off' N) d1) (hD : Ded d1 N d2 K) (hs : d2.size = N) (hK : K ≤ N) : NbF ls nl k (fun t => hwin h off' d2 (off' + t)) K := by
  have h1 : NbF ls nl k (fun t => d2[t]!) K := by
    refine nb_of (h := h) (off := off') (fun t ht => ?_) (fun j hj => ?_) hP hD
    · rcases ho with ho | ho
      · omega
      · rw [ho]; exact hsub t ht
    · obtain ⟨t, t1, t2⟩ := hall j hj
      rcases ho with ho | ho
      · omega
      · exact ⟨t, t1, by rw [ho]; exact t2⟩
  exact h1.congr fun t ht => (hwin_in (by omega)).symm
end Go.Proofs.Qxb6614822aFmt
