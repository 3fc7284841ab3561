import Derived.Test.Qxb6614822aFmtLah3
import Derived.Test.Qxb6614822aFmtLkp
namespace Go.Proofs.Qxb6614822aFmt
open Go.RowKit

/-- i and j are linked by one of the first k links, decided -/
def nbB (ls : List (Nat × Nat)) : Nat → Nat → Nat → Bool
  | 0, _, _ => false
  | k + 1, i, j => nbB ls k i j || (decide ((ls.getD k (0, 0)).1 = i) && decide ((ls.getD k (0, 0)).2 = j)) || (decide ((ls.getD k (0, 0)).1 = j) && decide ((ls.getD k (0, 0)).2 = i))
theorem nbB_iff (ls : List (Nat × Nat)) : ∀ k i j, nbB ls k i j = true ↔ nbr ls k i j
  | 0, _, _ => ⟨fun h => (by cases h), fun ⟨_, hm, _⟩ => absurd hm (Nat.not_lt_zero _)⟩
  | k + 1, i, j => by
    obtain ⟨a, b, hab⟩ : ∃ a b, ls.getD k (0, 0) = (a, b) := ⟨_, _, rfl⟩
    rw [nbr_succ hab, nbB, hab]
    simp only [Bool.or_eq_true, Bool.and_eq_true, decide_eq_true_eq, nbB_iff ls k i j, or_assoc]

/-- n marks -/
def bA (m : Nat → Bool) (n : Nat) : Array Value := (Array.range n).map fun i => .bool (m i)
theorem bA_size (m : Nat → Bool) (n : Nat) : (bA m n).size = n := by simp [bA]
theorem bA_get {m : Nat → Bool} {n i : Nat} (h : i < n) : (bA m n)[i]? = some (.bool (m i)) := by simp [bA, h]
theorem bA_set (m : Nat → Bool) (n i : Nat) (v : Bool) : (bA m n).setIfInBounds i (.bool v) = bA (bset m i v) n := by
  apply Array.ext_getElem?
  intro j
  rw [Array.getElem?_setIfInBounds, bA_size]
  by_cases hj : j < n
  · rw [bA_get hj]
    by_cases e : i = j
    · subst e; rw [if_pos rfl, if_pos hj, bA_get hj]; simp [bset]
    · rw [if_neg e, bA_get hj]; unfold bset; rw [if_neg (fun h => e h.symm)]
  · have e1 : (bA (bset m i v) n)[j]? = none := by rw [Array.getElem?_eq_none_iff, bA_size]; omega
    have e2 : (bA m n)[j]? = none := by rw [Array.getElem?_eq_none_iff, bA_size]; omega
    rw [e1, e2]
    by_cases e : i = j
    · rw [if_pos e, if_neg (by omega)]
    · rw [if_neg e]
theorem bA_congr {m m' : Nat → Bool} {n : Nat} (h : ∀ i, i < n → m i = m' i) : bA m n = bA m' n := by
  apply Array.ext_getElem?
  intro j
  by_cases hj : j < n
  · rw [bA_get hj, bA_get hj, h j hj]
  · have e1 : (bA m' n)[j]? = none := by rw [Array.getElem?_eq_none_iff, bA_size]; omega
    rw [e1, Array.getElem?_eq_none_iff, bA_size]; omega
theorem blk_bset {w : World} {g n : Nat} {m : Nat → Bool} (h : Blk w g (bA m n) 4) (i : Nat) (v : Bool) : Blk (w.setCell ⟨g, i, none⟩ (.bool v)) g (bA (bset m i v) n) 4 := by
  rw [← bA_set]; exact h.set _ _

/-- the marks of the first k links of node i: one more, or the same -/
theorem nbB_mark {ls : List (Nat × Nat)} {k a b i : Nat} (h : ls.getD k (0, 0) = (a, b)) (hab : a ≠ b) :
    (a = i → nbB ls (k + 1) i = bset (nbB ls k i) b true) ∧ (b = i → nbB ls (k + 1) i = bset (nbB ls k i) a true) ∧ (a ≠ i → b ≠ i → nbB ls (k + 1) i = nbB ls k i) := by
  refine ⟨fun e => ?_, fun e => ?_, fun e1 e2 => ?_⟩
  · subst e
    funext j
    rw [nbB, h]
    unfold bset
    by_cases hj : j = b
    · subst hj; simp
    · rw [if_neg hj]
      simp [Ne.symm hab, Ne.symm hj]
  · subst e
    funext j
    rw [nbB, h]
    unfold bset
    by_cases hj : j = a
    · subst hj; simp
    · rw [if_neg hj]
      simp [hab, Ne.symm hj]
  · funext j
    rw [nbB, h]
    simp [e1, e2]
theorem bset_same {m : Nat → Bool} {j : Nat} {v : Bool} (h : m j = v) : bset m j v = m := by
  funext t; unfold bset; split
  · rename_i e; subst e; exact h.symm
  · rfl

set_option maxRecDepth 20000 in
set_option maxHeartbeats 1000000 in
theorem mark_any (be bl nl n i : Nat) (ls : List (Nat × Nat)) (m0 : Nat → Bool) (w : World) (hn : n ≤ 1000000) (hnl : nl ≤ 10000) (hi : i < n) (hE : Row3 w be (endF ls) (2 * nl) (2 * nl)) (hB : Blk w bl (bA m0 n) 4) (hne : be ≠ bl)
    (hbd : ∀ t, t < nl → (ls.getD t (0, 0)).1 < n ∧ (ls.getD t (0, 0)).2 < n ∧ (ls.getD t (0, 0)).1 ≠ (ls.getD t (0, 0)).2) :
    Calls Tryf.prog 16 #[.slice (some ⟨be, 0, none⟩) (2 * nl) (2 * nl), .int .i64 i, .slice (some ⟨bl, 0, none⟩) n n] w fun e w' =>
      e = .returned (.int .i64 (cnt (nbB ls nl i) n : Nat)) ∧ Blk w' bl (bA (nbB ls nl i) n) 4 ∧ w.grownBy w' (some bl) := by
  have HE : Hid (Row3 w be (endF ls) (2 * nl) (2 * nl)) := hE
  have HBD : Hid (∀ t, t < nl → (ls.getD t (0, 0)).1 < n ∧ (ls.getD t (0, 0)).2 < n ∧ (ls.getD t (0, 0)).1 ≠ (ls.getD t (0, 0)).2) := hbd
  clear hE hbd
  go_enter Tryf.func16, Tryf.ntmps16
  go_wp2_with fail
  go_loopg [7] n (fun t v wr => ∃ (k : Nat) (m : Nat → Bool), v = .int .i64 k ∧ k + t = n ∧ (∀ j, j < k → m j = false) ∧ Blk wr bl (bA m n) 4 ∧ w.grownBy wr (some bl))
  case atStart => exact ⟨0, m0, rfl, by omega, fun j hj => absurd hj (Nat.not_lt_zero _), hB, grown_refl _ _⟩
  case round =>
    clear hB
    obtain ⟨k, m, rfl, hk, hm, hB, hg⟩ := hrel
    by_cases hlt : k < n
    · have c0 : wr.cell? ⟨bl, k, none⟩ = some (.bool (m k)) := by rw [hB.cell, bA_get hlt]
      have f0 := hB.frozen k
      have HB : Hid (Blk wr bl (bA m n) 4) := hB
      have HG : Hid (w.grownBy wr (some bl)) := hg
      have HM : Hid (∀ j, j < k → m j = false) := hm
      clear hB hg hm
      generalize m k = mk at c0
      go_wp2_with fail
      go_roundg (gk - 1)
      case measure => omega
      case rel =>
        refine ⟨k + 1, bset m k false, by go_num, by omega, fun j hj => ?_, blk_bset HB.out k false, grown_trans HG.out (grown_set _ _ _)⟩
        unfold bset
        split
        · rfl
        · exact HM.out j (by omega)
    · obtain rfl : n = k := by omega
      have HB : Hid (Blk wr bl (bA (nbB ls 0 i) n) 4) := by
        rw [bA_congr (m' := nbB ls 0 i) hm] at hB
        exact hB
      have HG : Hid (w.grownBy wr (some bl)) := hg
      have HC : Hid (cnt (nbB ls 0 i) n = 0) := cnt_none fun _ _ => rfl
      clear hB hg hm
      go_wp2_with fail
      go_loopg [8, 9] nl (fun t vd v wr => ∃ k : Nat, v = .int .i64 (2 * (k : Int)) ∧ k + t = nl ∧ vd = .int .i64 (cnt (nbB ls k i) n : Nat) ∧ Blk wr bl (bA (nbB ls k i) n) 4 ∧ w.grownBy wr (some bl))
      case atStart => exact ⟨0, rfl, by omega, by rw [HC.out]; rfl, HB.out, HG.out⟩
      case round =>
        clear HB HG HC
        obtain ⟨k, rfl, hk, rfl, hB, hg⟩ := hrel
        have HB : Hid (Blk wr bl (bA (nbB ls k i) n) 4) := hB
        have HG : Hid (w.grownBy wr (some bl)) := hg
        by_cases hlt : k < nl
        · obtain ⟨a, b, hab⟩ : ∃ a b, ls.getD k (0, 0) = (a, b) := ⟨_, _, rfl⟩
          obtain ⟨l1, l2, l3⟩ := HBD.out k hlt
          rw [hab] at l1 l2 l3
          simp only at l1 l2 l3
          have hbn : (some bl : Option Nat) ≠ some be := fun e => hne (Option.some.inj e).symm
          have hEr : Row3 wr be (endF ls) (2 * nl) (2 * nl) := HE.out.grown hg hbn
          have c0 : wr.cell? ⟨be, 2 * k, none⟩ = some (.int .i64 (a : Int)) := by
            rw [hEr.cell (by omega)]
            unfold endF
            rw [if_pos (by omega), show 2 * k / 2 = k by omega, hab]
          have c1 : wr.cell? ⟨be, 2 * k + 1, none⟩ = some (.int .i64 (b : Int)) := by
            rw [hEr.cell (by omega)]
            unfold endF
            rw [if_neg (by omega), show (2 * k + 1) / 2 = k by omega, hab]
          obtain ⟨m1, m2, m3⟩ := nbB_mark (i := i) hab l3
          have hcl : cnt (nbB ls k i) n ≤ n := cnt_le
          have HM1 : Hid (a = i → nbB ls (k + 1) i = bset (nbB ls k i) b true) := m1
          have HM2 : Hid (b = i → nbB ls (k + 1) i = bset (nbB ls k i) a true) := m2
          have HM3 : Hid (a ≠ i → b ≠ i → nbB ls (k + 1) i = nbB ls k i) := m3
          have da : wr.cell? ⟨bl, a, none⟩ = some (.bool (nbB ls k i a)) := by rw [hB.cell, bA_get l1]
          have db : wr.cell? ⟨bl, b, none⟩ = some (.bool (nbB ls k i b)) := by rw [hB.cell, bA_get l2]
          have fa := hB.frozen a
          have fb := hB.frozen b
          clear m1 m2 m3 hEr hB hg hab
          by_cases e1 : a = i
          · subst e1
            clear da
            cases hv : nbB ls k a b with
            | true =>
              rw [hv] at db
              have HV : Hid (nbB ls k a b = true) := hv
              clear hv
              generalize hc : cnt (nbB ls k a) n = q at hcl
              have HC : Hid (cnt (nbB ls k a) n = q) := hc
              clear hc
              go_wp2_with fail
              go_roundg (gk - 1)
              case measure => omega
              case rel =>
                have e := HM1.out trivial
                rw [bset_same HV.out] at e
                refine ⟨k + 1, by go_num, by omega, ?_, ?_, HG.out⟩
                · rw [e, HC.out]
                · rw [e]; exact HB.out
            | false =>
              rw [hv] at db
              have HV : Hid (nbB ls k a b = false) := hv
              clear hv
              generalize hc : cnt (nbB ls k a) n = q at hcl
              have HC : Hid (cnt (nbB ls k a) n = q) := hc
              clear hc
              go_wp2_with fail
              go_roundg (gk - 1)
              case measure => omega
              case rel =>
                have e := HM1.out trivial
                refine ⟨k + 1, by go_num, by omega, ?_, ?_, grown_trans HG.out (grown_set _ _ _)⟩
                · rw [e, cnt_set HV.out l2, HC.out]; go_num
                · rw [e]; exact blk_bset HB.out b true
          · have e1' : ((a : Int) == (i : Int)) = false := by simp; omega
            by_cases e2 : b = i
            · subst e2
              clear db
              cases hv : nbB ls k b a with
              | true =>
                rw [hv] at da
                have HV : Hid (nbB ls k b a = true) := hv
                clear hv
                generalize hc : cnt (nbB ls k b) n = q at hcl
                have HC : Hid (cnt (nbB ls k b) n = q) := hc
                clear hc
                go_wp2_with fail
                go_roundg (gk - 1)
                case measure => omega
                case rel =>
                  have e := HM2.out trivial
                  rw [bset_same HV.out] at e
                  refine ⟨k + 1, by go_num, by omega, ?_, ?_, HG.out⟩
                  · rw [e, HC.out]
                  · rw [e]; exact HB.out
              | false =>
                rw [hv] at da
                have HV : Hid (nbB ls k b a = false) := hv
                clear hv
                generalize hc : cnt (nbB ls k b) n = q at hcl
                have HC : Hid (cnt (nbB ls k b) n = q) := hc
                clear hc
                go_wp2_with fail
                go_roundg (gk - 1)
                case measure => omega
                case rel =>
                  have e := HM2.out trivial
                  refine ⟨k + 1, by go_num, by omega, ?_, ?_, grown_trans HG.out (grown_set _ _ _)⟩
                  · rw [e, cnt_set HV.out l1, HC.out]; go_num
                  · rw [e]; exact blk_bset HB.out a true
            · have e2' : ((b : Int) == (i : Int)) = false := by simp; omega
              clear da db
              generalize hc : cnt (nbB ls k i) n = q at hcl
              have HC : Hid (cnt (nbB ls k i) n = q) := hc
              clear hc
              go_wp2_with fail
              go_roundg (gk - 1)
              case measure => omega
              case rel =>
                have e := HM3.out e1 e2
                refine ⟨k + 1, by go_num, by omega, ?_, ?_, HG.out⟩
                · rw [e, HC.out]
                · rw [e]; exact HB.out
        · obtain rfl : nl = k := by omega
          generalize hc : cnt (nbB ls nl i) n = q
          go_wp2_with fail
          go_ret
          exact ⟨by rw [hc]; rfl, HB.out, HG.out⟩
end Go.Proofs.Qxb6614822aFmt
