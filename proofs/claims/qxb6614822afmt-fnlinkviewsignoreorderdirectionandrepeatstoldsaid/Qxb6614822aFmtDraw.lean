import Derived.Test.Qxb6614822aFmtRng
import Derived.Deep.LoopGhost
namespace Go.Proofs.Qxb6614822aFmt
open Go.RowKit Pcg

def hiOf (S : Nat) : Int := ((S / 18446744073709551616 : Nat) : Int)
def loOf (S : Nat) : Int := ((S % 18446744073709551616 : Nat) : Int)

theorem wrap_u64 (x : Int) : IntKind.u64.wrap x = x % 18446744073709551616 := by
  unfold IntKind.wrap; simp [IntKind.signed, IntKind.bits]

theorem word_hiOf (S : Nat) (h : S < M128) : Word (hiOf S) := by
  unfold M128 at h; unfold Word hiOf; omega
theorem word_loOf (S : Nat) : Word (loOf S) := by
  unfold Word loOf; omega

theorem nLo_nx (S : Nat) : nLo (loOf S) = loOf (nx S) := by
  unfold nLo aS mLo loOf nx stepF mulC incC M128
  omega

theorem mid_mod (a b c d j : Int) :
    ((a + (b % 18446744073709551616 + c % 18446744073709551616) % 18446744073709551616) % 18446744073709551616 + d + j) % 18446744073709551616 = (a + b + c + d + j) % 18446744073709551616 := by
  omega

theorem nHi_nx (S : Nat) : nHi (hiOf S) (loOf S) = hiOf (nx S) := by
  unfold nHi aS hiMid aC mLo mHi
  simp only [wrap_u64]
  rw [mid_mod]
  unfold loOf hiOf nx stepF
  generalize hh : S / 18446744073709551616 = h
  generalize hl : S % 18446744073709551616 = l
  have e : S = h * 18446744073709551616 + l := by omega
  clear hh hl
  subst e
  have eM : M128 = 18446744073709551616 * 18446744073709551616 := by decide
  rw [eM, Nat.mod_mul_right_div_self]
  have eY : (mulC * (h * 18446744073709551616 + l) + incC) / 18446744073709551616 = h * 4865540595714422341 + l * 2549297995355413924 + 6364136223846793005 + 18446744073709551616 * (2549297995355413924 * h) + (l * 4865540595714422341 + 1442695040888963407) / 18446744073709551616 := by
    unfold mulC incC; omega
  rw [eY]
  have ec : (l * 4865540595714422341 + 1442695040888963407) / 18446744073709551616 = l * 4865540595714422341 / 18446744073709551616 + (l * 4865540595714422341 % 18446744073709551616 + 1442695040888963407) / 18446744073709551616 := by omega
  rw [ec, show h * 4865540595714422341 + l * 2549297995355413924 + 6364136223846793005 + 18446744073709551616 * (2549297995355413924 * h) + (l * 4865540595714422341 / 18446744073709551616 + (l * 4865540595714422341 % 18446744073709551616 + 1442695040888963407) / 18446744073709551616)
    = l * 4865540595714422341 / 18446744073709551616 + h * 4865540595714422341 + l * 2549297995355413924 + 6364136223846793005 + (l * 4865540595714422341 % 18446744073709551616 + 1442695040888963407) / 18446744073709551616 + 18446744073709551616 * (2549297995355413924 * h) by omega, Nat.add_mul_mod_self_left]
  clear ec eY eM
  simp only [Int.natCast_emod, Int.natCast_add, Int.natCast_ediv, Int.natCast_mul, Int.add_zero, Int.cast_ofNat_Int]

def outS (S : Nat) : Int := outI (hiOf S) (loOf S)
theorem word_outS (S : Nat) : Word (outS S) := word_wrap _

/-- a state at which the generator gives 1 -/
def tgt : Nat := 185445742429152484065345008305017192448
theorem tgt_lt : tgt < M128 := by unfold tgt M128; omega
theorem outS_tgt : outS tgt = 1 := by decide +kernel

/-- the threshold below which a product's low word is thrown away -/
def thr (n : Int) : Int := (IntKind.u64.wrap (-n)).tmod n
def rej (n : Int) (S : Nat) : Prop := mLo (outS S) n < thr n
def pow2 (n : Int) : Bool := bits BinOp.and IntKind.u64 n (n - 1) == 0

/-- WHAT IntN(n) GIVES AT A STATE, AND THE STATE BEHIND IT -/
def Draw (n : Int) (S : Nat) (k : Int) (S' : Nat) : Prop :=
  (pow2 n = true ∧ S' = nx S ∧ k = bits BinOp.and IntKind.u64 (outS S') (n - 1)) ∨
  (pow2 n = false ∧ ∃ m, S' = iter nx (m + 1) S ∧ (∀ j, j < m → rej n (iter nx (j + 1) S)) ∧ ¬ rej n S' ∧ k = mHi (outS S') n)

theorem Draw.det {n : Int} {S : Nat} {k k2 : Int} {S' S2 : Nat} (h : Draw n S k S') (h2 : Draw n S k2 S2) : k = k2 ∧ S' = S2 := by
  unfold Draw at h h2
  rcases h with ⟨a, e1, e2⟩ | ⟨a, m, e1, hr, hn, e2⟩
  · rcases h2 with ⟨b, f1, f2⟩ | ⟨b, _⟩
    · rw [e2, f2, e1, f1]; exact ⟨rfl, rfl⟩
    · rw [a] at b; cases b
  · rcases h2 with ⟨b, _⟩ | ⟨b, m2, f1, hr2, hn2, f2⟩
    · rw [a] at b; cases b
    · rw [e1] at hn e2
      rw [f1] at hn2 f2
      have : m = m2 := by
        rcases Nat.lt_trichotomy m m2 with h | h | h
        · exact absurd (hr2 m h) hn
        · exact h
        · exact absurd (hr m2 h) hn2
      rw [e2, f2, e1, f1, this]; exact ⟨rfl, rfl⟩

theorem thr_lt (n : Int) (h : 0 < n) : 0 ≤ thr n ∧ thr n < n := by
  unfold thr
  rw [Int.tmod_eq_emod_of_nonneg (word_wrap _).1]
  exact ⟨Int.emod_nonneg _ (by omega), Int.emod_lt_of_pos _ h⟩

/-- from every state an accepted one is come to -/
theorem accept (n : Int) (S : Nat) (h0 : 0 < n) (h1 : n < 18446744073709551616) (hS : S < M128) : ∃ m, ¬ rej n (iter nx m S) := by
  obtain ⟨m, hm⟩ := it_reach S tgt hS tgt_lt
  refine ⟨m, ?_⟩
  rw [hm]
  unfold rej
  rw [outS_tgt]
  have := thr_lt n h0
  unfold mLo
  rw [Int.one_mul, Int.emod_eq_of_lt (by omega) h1]
  omega

theorem bits_and_le (x n : Int) (hn : 0 ≤ n) : 0 ≤ bits BinOp.and IntKind.u64 x n ∧ bits BinOp.and IntKind.u64 x n ≤ n := by
  unfold bits
  simp only [wrap_u64, BitVec.toNat_and]
  have h1 : (BitVec.ofInt IntKind.u64.bits x).toNat &&& (BitVec.ofInt IntKind.u64.bits n).toNat ≤ (BitVec.ofInt IntKind.u64.bits n).toNat := Nat.and_le_right
  have h2 : ((BitVec.ofInt IntKind.u64.bits n).toNat : Int) ≤ n := by
    obtain ⟨n, rfl⟩ := Int.eq_ofNat_of_zero_le hn
    have : (BitVec.ofInt IntKind.u64.bits (n : Int)).toNat ≤ n := by
      rw [BitVec.ofInt_natCast, BitVec.toNat_ofNat]; exact Nat.mod_le _ _
    omega
  omega

theorem Draw.bound {n : Int} {S : Nat} {k : Int} {S' : Nat} (h : Draw n S k S') (h0 : 0 < n) : 0 ≤ k ∧ k < n := by
  unfold Draw at h
  rcases h with ⟨a, e1, e2⟩ | ⟨a, m, e1, hr, hn, e2⟩
  · have := bits_and_le (outS S') (n - 1) (by omega)
    rw [e2]
    omega
  · obtain ⟨o0, o1⟩ := word_outS S'
    rw [e2]
    unfold mHi
    clear hn hr e1 e2
    generalize outS S' = x at *
    have h1 : 0 ≤ x * n := Int.mul_nonneg o0 (by omega)
    have h2 : x * n ≤ 18446744073709551615 * n := Int.mul_le_mul_of_nonneg_right (by omega) (by omega)
    generalize x * n = z at *
    omega

theorem Draw.lt {n : Int} {S : Nat} {k : Int} {S' : Nat} (h : Draw n S k S') : S' < M128 := by
  unfold Draw at h
  rcases h with ⟨a, e1, e2⟩ | ⟨a, m, e1, hr, hn, e2⟩
  · rw [e1]; exact nx_lt _
  · rw [e1, iter_succ]; exact nx_lt _
end Go.Proofs.Qxb6614822aFmt
