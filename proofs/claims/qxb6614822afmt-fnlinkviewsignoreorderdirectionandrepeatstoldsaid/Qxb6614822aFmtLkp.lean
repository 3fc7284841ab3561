import Derived.Test.Qxb6614822aFmtLk1b
namespace Go.Proofs.Qxb6614822aFmt
open Go.RowKit Go.Sort Pcg

/-- f0's first K are strictly ascending -/
def AscF (f : Nat → Int) (K : Nat) : Prop := ∀ i j, i < j → j < K → f i < f j

theorem AscF.le_of {f g : Nat → Int} {K L : Nat} (hf : AscF f K) (hg : AscF g L) (hs : ∀ t, t < K → ∃ u, u < L ∧ f t = g u) : ∀ t, t < K → ∃ u, u < L ∧ t ≤ u ∧ f t = g u
  | 0, h => by obtain ⟨u, h1, h2⟩ := hs 0 h; exact ⟨u, h1, Nat.zero_le _, h2⟩
  | t + 1, h => by
    obtain ⟨u, h1, h2, h3⟩ := AscF.le_of hf hg hs t (by omega)
    obtain ⟨v, h4, h5⟩ := hs (t + 1) h
    refine ⟨v, h4, ?_, h5⟩
    have h6 := hf t (t + 1) (by omega) h
    by_cases e : v ≤ u
    · by_cases e2 : v = u
      · subst e2; omega
      · have := hg v u (by omega) h1; omega
    · omega

/-- two strictly ascending rows with the same members are one -/
theorem AscF.uniq {f g : Nat → Int} {K L : Nat} (hf : AscF f K) (hg : AscF g L) (h1 : ∀ t, t < K → ∃ u, u < L ∧ f t = g u) (h2 : ∀ t, t < L → ∃ u, u < K ∧ g t = f u) : K = L ∧ ∀ t, t < K → f t = g t := by
  have a := AscF.le_of hf hg h1
  have b := AscF.le_of hg hf h2
  have e : K = L := by
    rcases Nat.lt_trichotomy K L with h | h | h
    · obtain ⟨u, q1, q2, _⟩ := b (L - 1) (by omega); omega
    · exact h
    · obtain ⟨u, q1, q2, _⟩ := a (K - 1) (by omega); omega
  subst e
  refine ⟨rfl, fun t ht => ?_⟩
  obtain ⟨u, q1, q2, q3⟩ := a t ht
  obtain ⟨v, r1, r2, r3⟩ := b t ht
  by_cases e : t = u
  · subst e; exact q3
  · have := hg t u (by omega) q1
    by_cases e2 : t = v
    · subst e2; exact r3.symm
    · have := hf t v (by omega) r1; omega

def fsw (f : Nat → Int) (i j : Nat) : Nat → Int := fun t => if t = j then f i else if t = i then f j else f t

/-- m steps of the shuffle, cut short, of f0's first K -/
def SRun (K : Nat) (f0 : Nat → Int) (S0 : Nat) : Nat → Nat → (Nat → Int) → Prop
  | 0, S, f => S = S0 ∧ ∀ t, t < K → f t = f0 t
  | m + 1, S, f => ∃ (S1 : Nat) (f1 : Nat → Int) (k : Nat), SRun K f0 S0 m S1 f1 ∧ m + k < K ∧ Draw ((K : Int) - m) S1 k S ∧ ∀ t, t < K → f t = fsw f1 m (m + k) t

theorem SRun.det {K : Nat} {f0 g0 : Nat → Int} {S0 : Nat} (h0 : ∀ t, t < K → f0 t = g0 t) : ∀ {m S S' : Nat} {f f' : Nat → Int}, SRun K f0 S0 m S f → SRun K g0 S0 m S' f' → S = S' ∧ ∀ t, t < K → f t = f' t
  | 0, _, _, _, _, h, h' => ⟨h.1.trans h'.1.symm, fun t ht => by rw [h.2 t ht, h'.2 t ht, h0 t ht]⟩
  | m + 1, _, _, _, _, h, h' => by
    obtain ⟨S1, f1, k, r, l, d, e⟩ := h
    obtain ⟨S1', f1', k', r', l', d', e'⟩ := h'
    obtain ⟨rfl, hf⟩ := SRun.det h0 r r'
    obtain ⟨ek, rfl⟩ := d.det d'
    obtain rfl : k = k' := by omega
    refine ⟨rfl, fun t ht => ?_⟩
    rw [e t ht, e' t ht]
    unfold fsw
    split
    · exact hf m (by omega)
    · split
      · exact hf _ (by omega)
      · exact hf t ht

theorem SRun.good {K : Nat} {f0 : Nat → Int} {S0 : Nat} : ∀ {m S : Nat} {f : Nat → Int}, SRun K f0 S0 m S f → (∀ t, t < K → ∃ u, u < K ∧ f t = f0 u) ∧ ((∀ i j, i < j → j < K → f0 i ≠ f0 j) → ∀ i j, i < j → j < K → f i ≠ f j)
  | 0, _, _, h => ⟨fun t ht => ⟨t, ht, h.2 t ht⟩, fun hi i j h1 h2 => by rw [h.2 i (by omega), h.2 j h2]; exact hi i j h1 h2⟩
  | m + 1, _, _, h => by
    obtain ⟨S1, f1, k, r, l, d, e⟩ := h
    obtain ⟨g1, g2⟩ := SRun.good r
    have hm : ∀ t, t < K → ∃ u, u < K ∧ fsw f1 m (m + k) t = f1 u ∧ (u = if t = m + k then m else if t = m then m + k else t) := fun t ht => by
      unfold fsw
      split
      · exact ⟨m, by omega, rfl, rfl⟩
      · split
        · exact ⟨m + k, l, rfl, rfl⟩
        · exact ⟨t, ht, rfl, rfl⟩
    refine ⟨fun t ht => ?_, fun hi i j h1 h2 => ?_⟩
    · obtain ⟨u, u1, u2, _⟩ := hm t ht
      obtain ⟨v, v1, v2⟩ := g1 u u1
      exact ⟨v, v1, by rw [e t ht, u2, v2]⟩
    · obtain ⟨u, u1, u2, u3⟩ := hm i (by omega)
      obtain ⟨v, v1, v2, v3⟩ := hm j h2
      rw [e i (by omega), e j h2, u2, v2]
      have hne : u ≠ v := by
        rw [u3, v3]
        split <;> split <;> (try split) <;> (try split) <;> omega
      rcases Nat.lt_or_gt_of_ne hne with q | q
      · exact g2 hi u v q v1
      · exact fun e => g2 hi v u q u1 e.symm

/-- f0's first K: node i's linked nodes, ascending -/
structure NbF (ls : List (Nat × Nat)) (nl i : Nat) (f0 : Nat → Int) (K : Nat) : Prop where
  asc : AscF f0 K
  sub : ∀ t, t < K → ∃ j, nbr ls nl i j ∧ f0 t = (j : Int)
  all : ∀ j, nbr ls nl i j → ∃ t, t < K ∧ f0 t = (j : Int)

theorem NbF.uniq {ls ls' : List (Nat × Nat)} {nl nl' i K K' : Nat} {f f' : Nat → Int} (h : NbF ls nl i f K) (h' : NbF ls' nl' i f' K') (he : ∀ j, nbr ls nl i j ↔ nbr ls' nl' i j) : K = K' ∧ ∀ t, t < K → f t = f' t :=
  AscF.uniq h.asc h'.asc
    (fun t ht => by
      obtain ⟨j, h1, h2⟩ := h.sub t ht
      obtain ⟨u, h3, h4⟩ := h'.all j ((he j).1 h1)
      exact ⟨u, h3, by rw [h2, h4]⟩)
    (fun t ht => by
      obtain ⟨j, h1, h2⟩ := h'.sub t ht
      obtain ⟨u, h3, h4⟩ := h.all j ((he j).2 h1)
      exact ⟨u, h3, by rw [h2, h4]⟩)

def mapR (f : Nat → Int) (m : Nat) : List Int := (List.range m).map f
theorem mapR_len (f : Nat → Int) (m : Nat) : (mapR f m).length = m := by simp [mapR]
theorem mapR_get {f : Nat → Int} {m t : Nat} (h : t < m) : (mapR f m).getD t 0 = f t := by simp [mapR, List.getD, h]
theorem mapR_succ (f : Nat → Int) (m : Nat) : mapR f (m + 1) = mapR f m ++ [f m] := by simp [mapR, List.range_succ]
theorem mapR_congr {f g : Nat → Int} {m : Nat} (h : ∀ t, t < m → f t = g t) : mapR f m = mapR g m := by
  unfold mapR
  apply List.map_congr_left
  intro t ht
  exact h t (List.mem_range.1 ht)

/-- node i's view: es, from the state S to S' -/
def NRun (ls : List (Nat × Nat)) (nl view i S : Nat) (es : List Int) (S' : Nat) : Prop :=
  ∃ (K : Nat) (f0 : Nat → Int), NbF ls nl i f0 K ∧ ((K ≤ view ∧ S' = S ∧ es = mapR f0 K) ∨ (view < K ∧ ∃ f, SRun K f0 S view S' f ∧ es = mapR f view))

theorem NRun.det {ls ls' : List (Nat × Nat)} {nl nl' view i S S1 S2 : Nat} {e1 e2 : List Int} (he : ∀ j, nbr ls nl i j ↔ nbr ls' nl' i j) (h1 : NRun ls nl view i S e1 S1) (h2 : NRun ls' nl' view i S e2 S2) : S1 = S2 ∧ e1 = e2 := by
  obtain ⟨K, f, hf, h1⟩ := h1
  obtain ⟨K', f', hf', h2⟩ := h2
  obtain ⟨rfl, hu⟩ := hf.uniq hf' he
  rcases h1 with ⟨a, rfl, rfl⟩ | ⟨a, g, r, rfl⟩
  · rcases h2 with ⟨b, rfl, rfl⟩ | ⟨b, _⟩
    · exact ⟨rfl, mapR_congr hu⟩
    · omega
  · rcases h2 with ⟨b, _⟩ | ⟨b, g', r', rfl⟩
    · omega
    · obtain ⟨rfl, hg⟩ := SRun.det hu r r'
      exact ⟨rfl, mapR_congr fun t ht => hg t (by omega)⟩

/-- the views of the nodes 0 to k - 1 -/
def LRun (ls : List (Nat × Nat)) (nl view S0 : Nat) : Nat → Nat → List (List Int) → Prop
  | 0, S, Es => S = S0 ∧ Es = []
  | k + 1, S, Es => ∃ S1 Es1 es, LRun ls nl view S0 k S1 Es1 ∧ NRun ls nl view k S1 es S ∧ Es = Es1 ++ [es]

theorem LRun.det {ls ls' : List (Nat × Nat)} {nl nl' view S0 : Nat} (he : ∀ i j, nbr ls nl i j ↔ nbr ls' nl' i j) : ∀ {k S1 S2 : Nat} {e1 e2 : List (List Int)}, LRun ls nl view S0 k S1 e1 → LRun ls' nl' view S0 k S2 e2 → S1 = S2 ∧ e1 = e2
  | 0, _, _, _, _, h1, h2 => ⟨h1.1.trans h2.1.symm, h1.2.trans h2.2.symm⟩
  | k + 1, _, _, _, _, h1, h2 => by
    obtain ⟨T1, F1, x1, r1, s1, rfl⟩ := h1
    obtain ⟨T2, F2, x2, r2, s2, rfl⟩ := h2
    obtain ⟨rfl, rfl⟩ := LRun.det he r1 r2
    obtain ⟨rfl, rfl⟩ := NRun.det (he k) s1 s2
    exact ⟨rfl, rfl⟩

theorem LRun.good {ls : List (Nat × Nat)} {nl view S0 : Nat} : ∀ {k S : Nat} {Es : List (List Int)}, LRun ls nl view S0 k S Es → Es.length = k ∧ ∀ i, i < k → ∃ S1 S2, NRun ls nl view i S1 (Es.getD i []) S2
  | 0, _, _, h => by rw [h.2]; exact ⟨rfl, fun i hi => absurd hi (Nat.not_lt_zero _)⟩
  | k + 1, S, Es, h => by
    obtain ⟨S1, Es1, es, r, s, rfl⟩ := h
    obtain ⟨g1, g2⟩ := LRun.good r
    refine ⟨by simp [g1], fun i hi => ?_⟩
    by_cases e : i = k
    · subst e
      have : (Es1 ++ [es]).getD i [] = es := by simp [List.getD, ← g1]
      rw [this]; exact ⟨S1, S, s⟩
    · have : (Es1 ++ [es]).getD i [] = Es1.getD i [] := by simp [List.getD, List.getElem?_append_left (show i < Es1.length by omega)]
      rw [this]; exact g2 i (by omega)

/-- how many of 0 to n - 1 are marked -/
def cnt (m : Nat → Bool) : Nat → Nat
  | 0 => 0
  | n + 1 => cnt m n + if m n then 1 else 0

def bset (m : Nat → Bool) (j : Nat) (b : Bool) : Nat → Bool := fun t => if t = j then b else m t
theorem cnt_congr {m m' : Nat → Bool} : ∀ {n : Nat}, (∀ t, t < n → m t = m' t) → cnt m n = cnt m' n
  | 0, _ => rfl
  | n + 1, h => by rw [cnt, cnt, cnt_congr (fun t ht => h t (by omega)), h n (by omega)]
theorem cnt_none {m : Nat → Bool} : ∀ {n : Nat}, (∀ t, t < n → m t = false) → cnt m n = 0
  | 0, _ => rfl
  | n + 1, h => by rw [cnt, cnt_none (fun t ht => h t (by omega)), h n (by omega)]; rfl
theorem cnt_set {m : Nat → Bool} {j : Nat} (h : m j = false) : ∀ {n : Nat}, j < n → cnt (bset m j true) n = cnt m n + 1
  | 0, hj => absurd hj (Nat.not_lt_zero _)
  | n + 1, hj => by
    rw [cnt, cnt]
    by_cases e : j = n
    · subst e
      rw [cnt_congr (m' := m) (fun t ht => by unfold bset; rw [if_neg (by omega)]), h]
      simp [bset]
    · rw [cnt_set h (show j < n by omega)]
      have : bset m j true n = m n := by unfold bset; rw [if_neg (by omega)]
      rw [this]; omega
theorem cnt_le {m : Nat → Bool} : ∀ {n : Nat}, cnt m n ≤ n
  | 0 => Nat.le_refl _
  | n + 1 => by have := cnt_le (m := m) (n := n); rw [cnt]; split <;> omega

/-- the place of node x among node i's linked nodes -/
theorem NbF.place {ls : List (Nat × Nat)} {nl i K : Nat} {f : Nat → Int} (h : NbF ls nl i f K) {m : Nat → Bool} (hm : ∀ j, m j = true ↔ nbr ls nl i j) : ∀ x, cnt m x ≤ K ∧ (∀ t, t < cnt m x → f t < x) ∧ (∀ t, cnt m x ≤ t → t < K → (x : Int) ≤ f t)
  | 0 => ⟨Nat.zero_le _, fun t ht => absurd ht (Nat.not_lt_zero _), fun t _ ht => by obtain ⟨j, _, e⟩ := h.sub t ht; omega⟩
  | x + 1 => by
    obtain ⟨a, b, c⟩ := NbF.place h hm x
    rw [cnt]
    cases hx : m x with
    | true =>
      obtain ⟨t, t1, t2⟩ := h.all x ((hm x).1 hx)
      have e : t = cnt m x := by
        rcases Nat.lt_trichotomy t (cnt m x) with q | q | q
        · have := b t q; omega
        · exact q
        · have := h.asc _ t q t1
          have := c (cnt m x) (Nat.le_refl _) (by omega); omega
      simp only [if_true]
      refine ⟨by omega, fun u hu => ?_, fun u hu hK => ?_⟩
      · by_cases e2 : u = t
        · subst e2; omega
        · have := b u (by omega); omega
      · have := h.asc t u (by omega) hK; omega
    | false =>
      simp only [Bool.false_eq_true, if_false, Nat.add_zero]
      refine ⟨a, fun t ht => by have := b t ht; omega, fun t h1 h2 => ?_⟩
      have := c t h1 h2
      obtain ⟨j, q1, q2⟩ := h.sub t h2
      have : j ≠ x := fun e => by
        subst e
        have := (hm j).2 q1
        rw [hx] at this; cases this
      omega

/-- a marked node's place -/
theorem NbF.at {ls : List (Nat × Nat)} {nl i K x : Nat} {f : Nat → Int} (h : NbF ls nl i f K) {m : Nat → Bool} (hm : ∀ j, m j = true ↔ nbr ls nl i j) (hx : m x = true) : cnt m x < K ∧ f (cnt m x) = x := by
  obtain ⟨a, b, c⟩ := NbF.place h hm x
  obtain ⟨t, t1, t2⟩ := h.all x ((hm x).1 hx)
  have e : t = cnt m x := by
    rcases Nat.lt_trichotomy t (cnt m x) with q | q | q
    · have := b t q; omega
    · exact q
    · have := h.asc _ t q t1
      have := c (cnt m x) (Nat.le_refl _) (by omega); omega
  subst e
  exact ⟨t1, t2⟩
theorem NbF.len {ls : List (Nat × Nat)} {nl i K n : Nat} {f : Nat → Int} (h : NbF ls nl i f K) {m : Nat → Bool} (hm : ∀ j, m j = true ↔ nbr ls nl i j) (hn : ∀ j, nbr ls nl i j → j < n) : cnt m n = K := by
  obtain ⟨a, b, c⟩ := NbF.place h hm n
  rcases Nat.lt_or_ge (cnt m n) K with q | q
  · have := c _ (Nat.le_refl _) q
    obtain ⟨j, q1, q2⟩ := h.sub _ q
    have := hn j q1; omega
  · omega
end Go.Proofs.Qxb6614822aFmt
