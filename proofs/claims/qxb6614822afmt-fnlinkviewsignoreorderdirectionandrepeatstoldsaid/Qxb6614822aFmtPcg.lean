/- Plain arithmetic of the generator PCG-DXSM: its state runs through every number below 2^128 (the period is full); so a rejection loop that draws from it ends. No Go here. -/
namespace Go.Proofs.Qxb6614822aFmt.Pcg

def M64 : Nat := 18446744073709551616
def M128 : Nat := 340282366920938463463374607431768211456
def mulC : Nat := 47026247687942121848144207491837523525
def incC : Nat := 117397592171526113268558934119004209487

/-- one step, not reduced -/
def stepF (x : Nat) : Nat := mulC * x + incC
def itF : Nat → Nat → Nat
  | 0, x => x
  | n + 1, x => itF n (stepF x)

theorem itF_add (a b x : Nat) : itF (a + b) x = itF b (itF a x) := by
  induction a generalizing x with
  | zero => rw [Nat.zero_add]; rfl
  | succ a ih => rw [Nat.succ_add]; exact ih (stepF x)

theorem itF_pow (k : Nat) : ∃ α γ, ∀ x, itF (2 ^ k) x = (1 + 4 * 2 ^ k * α) * x + 2 ^ k * (1 + 2 * γ) := by
  induction k with
  | zero =>
    refine ⟨11756561921985530462036051872959380881, 58698796085763056634279467059502104743, fun x => ?_⟩
    show stepF x = _
    unfold stepF mulC incC
    omega
  | succ k ih =>
    obtain ⟨α, γ, h⟩ := ih
    generalize hp : 2 ^ k = p at h
    refine ⟨α + 2 * p * α * α, γ + p * α * (1 + 2 * γ), fun x => ?_⟩
    rw [show 2 ^ (k + 1) = p + p by rw [Nat.pow_succ, hp]; omega, itF_add, h, h]
    grind

/-- every residue is come to -/
theorem reach (k x y : Nat) : ∃ m, itF m x % 2 ^ k = y % 2 ^ k := by
  induction k with
  | zero => exact ⟨0, by simp [Nat.mod_one]⟩
  | succ k ih =>
    obtain ⟨m, hm⟩ := ih
    by_cases h : itF m x % 2 ^ (k + 1) = y % 2 ^ (k + 1)
    · exact ⟨m, h⟩
    · refine ⟨m + 2 ^ k, ?_⟩
      rw [itF_add]
      obtain ⟨α, γ, hp⟩ := itF_pow k
      rw [hp]
      generalize itF m x = z at *
      rw [Nat.pow_succ] at *
      generalize 2 ^ k = p at *
      have e : (1 + 4 * p * α) * z + p * (1 + 2 * γ) = z + p + (p * 2) * (2 * α * z + γ) := by grind
      rw [e, Nat.add_mul_mod_self_left]
      have h1 := Nat.mod_mul (x := z) (a := p) (b := 2)
      have h2 := Nat.mod_mul (x := y) (a := p) (b := 2)
      have h3 := Nat.mod_mul (x := z + p) (a := p) (b := 2)
      rw [h3, h2]
      rw [h1, h2, hm] at h
      rw [Nat.add_mod_right, hm]
      rcases Nat.eq_zero_or_pos p with rfl | hpos
      · have : z = y := by simpa using hm
        rw [this] at h; exact absurd rfl h
      · rw [Nat.add_div_right _ hpos]
        have a1 : z / p % 2 ≠ y / p % 2 := fun e => h (by rw [e])
        have a2 : (z / p).succ % 2 = y / p % 2 := by omega
        rw [a2]

/-- the iterate of a function -/
def iter (f : Nat → Nat) : Nat → Nat → Nat
  | 0, S => S
  | n + 1, S => iter f n (f S)

theorem iter_succ (f : Nat → Nat) (n S : Nat) : iter f (n + 1) S = f (iter f n S) := by
  induction n generalizing S with
  | zero => rfl
  | succ n ih => exact ih (f S)

theorem itF_iter (n x : Nat) : itF n x = iter stepF n x := by
  induction n generalizing x with
  | zero => rfl
  | succ n ih => exact ih (stepF x)

theorem iter_mod (f : Nat → Nat) (M : Nat) (hf : ∀ x, f x % M = f (x % M) % M) (n S : Nat) : iter f n S % M = iter f n (S % M) % M := by
  induction n generalizing S with
  | zero => show S % M = S % M % M; rw [Nat.mod_mod]
  | succ n ih =>
    show iter f n (f S) % M = iter f n (f (S % M)) % M
    rw [ih, ih (f (S % M)), hf]

theorem iter_red (f : Nat → Nat) (M : Nat) (hM : 0 < M) (hf : ∀ x, f x % M = f (x % M) % M) (n S : Nat) (h : S < M) : iter (fun x => f x % M) n S = iter f n S % M := by
  induction n generalizing S with
  | zero => show S = S % M; rw [Nat.mod_eq_of_lt h]
  | succ n ih =>
    show iter (fun x => f x % M) n (f S % M) = iter f n (f S) % M
    rw [ih (f S % M) (Nat.mod_lt _ hM), iter_mod f M hf n (f S)]

theorem lin_mod (a c M x : Nat) : (a * x + c) % M = (a * (x % M) + c) % M := by
  rw [Nat.add_mod, Nat.mul_mod, Nat.add_mod (a * (x % M)), Nat.mul_mod a (x % M), Nat.mod_mod]

/-- the state's step -/
def nx (S : Nat) : Nat := stepF S % M128

theorem M128_pos : 0 < M128 := by unfold M128; omega
theorem M128_eq : M128 = 2 ^ 128 := by unfold M128; rfl

theorem nx_lt (S : Nat) : nx S < M128 := Nat.mod_lt _ M128_pos

theorem it_reach (S T : Nat) (hS : S < M128) (hT : T < M128) : ∃ m, iter nx m S = T := by
  obtain ⟨m, hm⟩ := reach 128 S T
  refine ⟨m, ?_⟩
  have e := iter_red stepF M128 M128_pos (fun x => lin_mod mulC incC M128 x) m S hS
  have e2 : iter nx m S = iter (fun x => stepF x % M128) m S := rfl
  rw [e2, e, M128_eq, ← itF_iter, hm, ← M128_eq, Nat.mod_eq_of_lt hT]
end Go.Proofs.Qxb6614822aFmt.Pcg
