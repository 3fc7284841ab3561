import Derived.Test.Qxb6614822aFmtFrameB
import Derived.Test.Qxb6614822aFmtLah2
namespace Go.Proofs.Qxb6614822aFmt
open Go.RowKit Pcg

theorem wordOf {x : Int} (h : (Lit.int .u64 x).wf = true) : Word x := by
  have hb : 0 ≤ x ∧ x ≤ 18446744073709551615 := by
    have := h
    simp [Lit.wf, IntKind.min, IntKind.max, IntKind.signed, IntKind.bits] at this
    omega
  unfold Word; omega
theorem i64Of {x : Int} (h : (Lit.int .i64 x).wf = true) : -9223372036854775808 ≤ x ∧ x ≤ 9223372036854775807 := by
  have := h
  simp [Lit.wf, IntKind.min, IntKind.max, IntKind.signed, IntKind.bits] at this
  omega

theorem rowInI {w : World} {a : Option Addr} {n c : Nat} {zs : List Int} (h : IsRow .u64 w a n c zs) : n ≤ maxLen ∧ (zs.take n).length = n ∧ IntsIn .u64 w a n (zs.take n) ∧ (a = none → n = 0 ∧ c = 0) := by
  rcases h with ⟨rfl, rfl, rfl, rfl⟩ | ⟨x, rfl, hlc, hcm, hz, hcell, _⟩
  · exact ⟨Nat.zero_le _, rfl, fun h => absurd h (Nat.lt_irrefl _), fun _ => ⟨rfl, rfl⟩⟩
  · refine ⟨by omega, by simp; omega, IntsIn.of_cells fun i hi => ?_, fun e => by cases e⟩
    rw [hcell i (by omega)]
    simp [List.getD, hi]

theorem add_cell {w : World} {x : Addr} {v : Value} (h : w.cell? (x.add 0) = some v) : x.spot = none := by
  have := spot_none h
  unfold Addr.add at this
  simpa using this

theorem rowInL {w : World} {a : Option Addr} {n c : Nat} {vs : List (Int × Int)} (h : IsRowL w a n c vs) : n ≤ maxLen ∧ LnkIn w a n vs ∧ (a = none → n = 0 ∧ c = 0) := by
  rcases h with ⟨rfl, rfl, rfl, rfl⟩ | ⟨x, rfl, hlc, hcm, hcell⟩
  · exact ⟨Nat.zero_le _, fun h => absurd h (Nat.lt_irrefl _), fun _ => ⟨rfl, rfl⟩⟩
  · refine ⟨by omega, fun h0 => ?_, fun e => by cases e⟩
    have hc0 := (hcell 0 h0).1
    rw [Nat.zero_mul] at hc0
    have hs := add_cell hc0
    clear hc0
    obtain ⟨b, o, s⟩ := x
    simp only at hs
    subst hs
    refine ⟨b, o, rfl, fun t ht => ?_⟩
    obtain ⟨e1, e2⟩ := hcell t ht
    rw [addr_add] at e1 e2
    exact ⟨e1, e2⟩
end Go.Proofs.Qxb6614822aFmt
