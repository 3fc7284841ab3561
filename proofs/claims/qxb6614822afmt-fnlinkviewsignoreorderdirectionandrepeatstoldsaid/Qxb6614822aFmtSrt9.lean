import Derived.Test.Qxb6614822aFmtSrt8
namespace Go.Proofs.Qxb6614822aFmt
open Go.RowKit Go.Sort

theorem lt_t {x y : Int} (h : x < y) : ltInt x y = true := by unfold ltInt; simpa using h
theorem lt_f {x y : Int} (h : y ≤ x) : ltInt x y = false := by unfold ltInt; simpa using h

/-- what is left to sort: [a1, b1) of dk; then the whole [a, b) of d is sorted -/
def Left (a b a1 b1 : Nat) (d dk : Array Int) : Prop := ∀ T : Array Int, PermIn a1 b1 dk T → SortedIn ltInt a1 b1 T → PermIn a b d T ∧ SortedIn ltInt a b T

theorem Left.perm {a b a1 b1 : Nat} {d dk d2 : Array Int} (h : Left a b a1 b1 d dk) (hp : PermIn a1 b1 dk d2) : Left a b a1 b1 d d2 := fun T h1 h2 => h T (permIn_trans _ _ _ _ _ hp h1) h2

theorem glue_eq {a b p mid : Nat} {d3 d4 : Array Int} (ha : 0 < a) (hb : b ≤ d3.size) (hB : Go.Sort.Below ltInt a b d3) (hl : ltInt d3[a - 1]! d3[p]! = false)
    (h1 : a < mid) (h2 : mid ≤ b) (hperm : PermIn a b d3 d4) (hPE : PE a b mid (mid - 1) d3[p]! d4) :
    Go.Sort.Below ltInt mid b d4 ∧ Left a b mid b d3 d4 := by
  have hge : ∀ i, a ≤ i → i < b → ltInt d3[i]! d3[p]! = false := fun i hi hi' => by
    rcases hB with h0 | hB
    · omega
    · exact swo_ltInt.ntrans _ _ _ (hB i hi hi') hl
  have hge4 := permIn_all d3 d4 a b (fun x => ltInt x d3[p]! = false) hb hperm hge
  have hb4 : b ≤ d4.size := by rw [hperm.1]; exact hb
  refine ⟨.inr fun i hi hi' => ?_, fun T hT hs => ⟨permIn_trans _ _ _ a b hperm (permIn_mono _ _ mid b a b (by omega) (Nat.le_refl _) hb4 hT), ?_⟩⟩
  · have e1 := hPE.hi i (by omega) hi'
    have e2 := hPE.lo (mid - 1) (by omega) (by omega)
    exact lt_f (by omega)
  · refine sorted_glue_eq swo_ltInt d3[p]! hs (fun i hi hi' => ?_) (fun i hi hi' => ?_) (permIn_all d4 T mid b (fun x => ltInt d3[p]! x = true) hb4 hT fun i hi hi' => lt_t (hPE.hi i (by omega) hi'))
    · rw [hT.2.1 i (.inl hi')]; exact lt_f (hPE.lo i hi hi')
    · rw [hT.2.1 i (.inl hi')]; exact hge4 i hi (by omega)

theorem glue_part {a b p mid : Nat} {d3 d4 : Array Int} (hb : b ≤ d3.size) (hB : Go.Sort.Below ltInt a b d3) (h1 : a ≤ mid) (h2 : mid < b) (hperm : PermIn a b d3 d4) (hPF : PF a b mid d3[p]! d4) :
    Go.Sort.Below ltInt a mid d4 ∧ Go.Sort.Below ltInt (mid + 1) b d4 ∧
    (∀ L, PermIn a mid d4 L → SortedIn ltInt a mid L → Go.Sort.Below ltInt (mid + 1) b L ∧ Left a b (mid + 1) b d3 L) ∧
    (∀ L, PermIn (mid + 1) b d4 L → SortedIn ltInt (mid + 1) b L → Go.Sort.Below ltInt a mid L ∧ Left a b a mid d3 L) := by
  have hpv := hPF.piv
  have hlo : ∀ i, a ≤ i → i < mid → ltInt d4[i]! d4[mid]! = true := fun i q1 q2 => by rw [hpv]; exact lt_t (hPF.lo i q1 q2)
  have hhi : ∀ i, mid < i → i < b → ltInt d4[i]! d4[mid]! = false := fun i q1 q2 => by rw [hpv]; exact lt_f (hPF.hi i q1 q2)
  have hb4 : b ≤ d4.size := by rw [hperm.1]; exact hb
  have hBa : Go.Sort.Below ltInt a mid d4 := (hB.perm hb hperm).mono (by omega)
  refine ⟨hBa, .inr fun i hi hi' => by rw [Nat.add_sub_cancel]; exact hhi i (by omega) hi', fun L hL hsL => ?_, fun L hL hsL => ?_⟩
  · have hbL : b ≤ L.size := by rw [hL.1]; exact hb4
    have eL : ∀ i, mid ≤ i → L[i]! = d4[i]! := fun i hi => hL.2.1 i (.inr hi)
    refine ⟨.inr fun i hi hi' => by rw [Nat.add_sub_cancel, eL i (by omega), eL mid (Nat.le_refl _)]; exact hhi i (by omega) hi', fun T hT hsT => ?_⟩
    have eT : ∀ i, i ≤ mid → T[i]! = L[i]! := fun i hi => hT.2.1 i (.inl (by omega))
    refine ⟨permIn_trans _ _ _ a b hperm (permIn_trans _ _ _ a b (permIn_mono _ _ a mid a b (Nat.le_refl _) (by omega) hb4 hL) (permIn_mono _ _ (mid + 1) b a b (by omega) (Nat.le_refl _) hbL hT)), ?_⟩
    have hm : T[mid]! = d4[mid]! := by rw [eT mid (Nat.le_refl _), eL mid (Nat.le_refl _)]
    refine sorted_glue swo_ltInt (SortedIn.congr hsL fun i _ hi' => eT i (by omega)) hsT (fun i hi hi' => ?_) (fun i hi hi' => ?_)
    · rw [hm, eT i (by omega)]
      exact permIn_all d4 L a mid (fun x => ltInt x d4[mid]! = true) (by omega) hL hlo i hi hi'
    · rw [hm]
      exact permIn_all L T (mid + 1) b (fun x => ltInt x d4[mid]! = false) hbL hT (fun k hk hk' => by rw [eL k (by omega)]; exact hhi k (by omega) hk') i (by omega) hi'
  · have hbL : b ≤ L.size := by rw [hL.1]; exact hb4
    have eL : ∀ i, i ≤ mid → L[i]! = d4[i]! := fun i hi => hL.2.1 i (.inl (by omega))
    refine ⟨?_, fun T hT hsT => ?_⟩
    · rcases hBa with h0 | hBa
      · exact .inl h0
      · rcases Nat.eq_zero_or_pos a with h0 | h0
        · exact .inl h0
        · exact .inr fun i hi hi' => by rw [eL i (by omega), eL (a - 1) (by omega)]; exact hBa i hi hi'
    have eT : ∀ i, mid ≤ i → T[i]! = L[i]! := fun i hi => hT.2.1 i (.inr hi)
    have hm : T[mid]! = d4[mid]! := by rw [eT mid (Nat.le_refl _), eL mid (Nat.le_refl _)]
    refine ⟨permIn_trans _ _ _ a b hperm (permIn_trans _ _ _ a b (permIn_mono _ _ (mid + 1) b a b (by omega) (Nat.le_refl _) hb4 hL) (permIn_mono _ _ a mid a b (Nat.le_refl _) (by omega) hbL hT)), ?_⟩
    refine sorted_glue swo_ltInt hsT (SortedIn.congr hsL fun i hi _ => eT i (by omega)) (fun i hi hi' => ?_) (fun i hi hi' => ?_)
    · rw [hm]
      exact permIn_all L T a mid (fun x => ltInt x d4[mid]! = true) (by omega) hT (fun k hk hk' => by rw [eL k (by omega)]; exact hlo k hk hk') i hi hi'
    · rw [hm, eT i (by omega)]
      exact permIn_all d4 L (mid + 1) b (fun x => ltInt x d4[mid]! = false) hb4 hL (fun k hk hk' => hhi k (by omega) hk') i (by omega) hi'
end Go.Proofs.Qxb6614822aFmt
