import Derived.Test.Qxb6614822aFmtSrt1
namespace Go.Proofs.Qxb6614822aFmt
open Go.RowKit Go.Sort

theorem sift_stop {hi first root : Nat} {d : Array Int} (h : hi ≤ 2 * root + 1) : siftDown ltInt hi first root d = d := by
  rw [siftDown, dif_pos h]
/-- which child -/
def kid (hi first root : Nat) (d : Array Int) : Nat := if 2 * root + 1 + 1 < hi && ltInt d[first + (2 * root + 1)]! d[first + (2 * root + 1) + 1]! then 2 * root + 2 else 2 * root + 1
theorem sift_end {hi first root c : Nat} {d : Array Int} (h : ¬ hi ≤ 2 * root + 1) (hc : kid hi first root d = c) (hl : ltInt d[first + root]! d[first + c]! = false) : siftDown ltInt hi first root d = d := by
  rw [siftDown, dif_neg h]
  unfold kid at hc
  split at hc
  · rename_i hk
    subst hc
    rw [if_pos hk, if_pos (by rw [hl]; rfl)]
  · rename_i hk
    subst hc
    rw [if_neg hk, if_pos (by rw [hl]; rfl)]
theorem sift_go {hi first root c : Nat} {d : Array Int} (h : ¬ hi ≤ 2 * root + 1) (hc : kid hi first root d = c) (hl : ltInt d[first + root]! d[first + c]! = true) :
    siftDown ltInt hi first root d = siftDown ltInt hi first c (swp d (first + root) (first + c)) := by
  rw [siftDown, dif_neg h]
  unfold kid at hc
  split at hc
  · rename_i hk
    subst hc
    rw [if_pos hk, if_neg (by rw [hl]; decide)]
    rw [dif_pos (by simp only [Bool.and_eq_true, decide_eq_true_eq] at hk; omega)]
  · rename_i hk
    subst hc
    rw [if_neg hk, if_neg (by rw [hl]; decide)]

set_option maxRecDepth 20000 in
set_option maxHeartbeats 2000000 in
theorem sift_any (w0 : World) (cs : Array Value) (blk off N cap lo hi first : Nat) (d : Array Int) (w : World) (hR : R w0 cs blk off N w d) (hb : first + hi ≤ N) (hlo : lo ≤ hi) (hN : N ≤ 1000000) :
    Calls Tryf.prog 98 #[.slice (some ⟨blk, off, none⟩) N cap, .int .i64 lo, .int .i64 hi, .int .i64 first] w fun e w' =>
      e = .returned (.tuple #[]) ∧ R w0 cs blk off N w' (siftDown ltInt hi first lo d) := by
  go_enter Tryf.func98, Tryf.ntmps98
  go_wp2
  go_loopg [8] hi (fun t vi wr => ∃ (r : Nat) (dk : Array Int), vi = .int .i64 r ∧ r ≤ hi ∧ hi ≤ r + t ∧ R w0 cs blk off N wr dk ∧ siftDown ltInt hi first r dk = siftDown ltInt hi first lo d)
  case atStart => exact ⟨lo, d, rfl, by omega, by omega, hR, rfl⟩
  case round =>
    obtain ⟨r, dk, rfl, h1, h2, hRk, hE⟩ := hrel
    clear hR
    by_cases hend : hi ≤ 2 * r + 1
    · go_wp2
      go_end0
      rw [sift_stop hend] at hE
      rw [← hE]
      exact ⟨rfl, hRk⟩
    · have hcw := hRk.cell
      have hfw := hRk.frozen
      obtain ⟨G, hG⟩ : ∃ G : Nat → Int, ∀ t, G t = dk[t]! := ⟨fun t => dk[t]!, fun _ => rfl⟩
      simp only [← hG] at hcw
      have HR : Hid (R w0 cs blk off N wr dk) := hRk
      have HE : Hid (siftDown ltInt hi first r dk = siftDown ltInt hi first lo d) := hE
      have HG : Hid (∀ t, G t = dk[t]!) := hG
      clear hRk hG hE
      by_cases hk : 2 * r + 1 + 1 < hi
      · have hk1 : decide (2 * (r : Int) + 1 + 1 < (hi : Int)) = true := decide_eq_true (by omega)
        go_wp2_with fail
        go_big_quiet (first | (go_at_call 76; refine Calls.quiet_of_same (less_any _ _ _)))
        go_wp2_with fail
        · have hL : ltInt (G (first + 2 * r + 1)) (G (first + 2 * r + 2)) = true := by assumption
          have HK : Hid (kid hi first r dk = 2 * r + 2) := by
            show kid hi first r dk = _
            rw [HG.out, HG.out] at hL
            unfold kid
            rw [if_pos]
            rw [Bool.and_eq_true, decide_eq_true_eq]
            exact ⟨hk, hL⟩
          revert nq; intro nq1
          have hcw2 : ∀ t, t < N → (wr.drewN nq1).cell? ⟨blk, off + t, none⟩ = some (.int .u64 (G t)) := hcw
          have hfw2 : ∀ t, t < N → (wr.drewN nq1).frozen? ⟨blk, off + t, none⟩ = false := hfw
          have HR2 : Hid (R w0 cs blk off N (wr.drewN nq1) dk) := HR.out.drew _
          clear hcw hfw HR
          generalize wr.drewN nq1 = wr2 at hcw2 hfw2 HR2 ⊢
          go_big_quiet (first | (go_at_call 76; refine Calls.quiet_of_same (less_any _ _ _)))
          go_wp2_with fail
          · have hS : ltInt (G (first + r)) (G (first + (2 * r + 2))) = false := by
              have h9 : (!ltInt (G (first + r)) (G (first + 2 * r + 2))) = true := by assumption
              rw [← Nat.add_assoc]; simpa using h9
            (try simp only [Exit.inBlock, Exit.then]); refine bodyPost_ret (results_none rfl _ _ _) rfl ?_
            refine ⟨rfl, ?_⟩
            have hE := HE.out
            rw [sift_end hend (c := 2 * r + 2) (HK.out) (by rw [← HG.out, ← HG.out]; exact hS)] at hE
            rw [← hE]
            exact HR2.out.drew _
          · have hS : ltInt (G (first + r)) (G (first + (2 * r + 2))) = true := by
              have h9 : (!ltInt (G (first + r)) (G (first + 2 * r + 2))) = false := by assumption
              rw [← Nat.add_assoc]; simpa using h9
            have hcw3 : ∀ t, t < N → (wr2.drewN nq).cell? ⟨blk, off + t, none⟩ = some (.int .u64 (G t)) := hcw2
            have hfw3 : ∀ t, t < N → (wr2.drewN nq).frozen? ⟨blk, off + t, none⟩ = false := hfw2
            have HR3 : Hid (R w0 cs blk off N (wr2.drewN nq) dk) := HR2.out.drew _
            clear hcw2 hfw2 HR2
            generalize wr2.drewN nq = wr3 at hcw3 hfw3 HR3 ⊢
            go_region
            go_wp2
            go_roundg (hi - (2 * r + 2))
            case measure => omega
            case rel =>
              refine ⟨2 * r + 2, swp dk (first + r) (first + (2 * r + 1 + 1)), by simp <;> omega, by omega, by omega, ?_, ?_⟩
              · rw [HG.out, HG.out]
                exact (HR3.out.swap (by omega) (by omega)).drew 1
              · have hE := HE.out
                rw [sift_go hend (c := 2 * r + 2) (HK.out) (by rw [← HG.out, ← HG.out]; exact hS)] at hE
                exact hE

        · have hL : ltInt (G (first + 2 * r + 1)) (G (first + 2 * r + 2)) = false := by assumption
          have HK : Hid (kid hi first r dk = 2 * r + 1) := by
            show kid hi first r dk = _
            rw [HG.out, HG.out] at hL
            unfold kid
            rw [if_neg]
            rw [Bool.and_eq_true, decide_eq_true_eq]
            rintro ⟨-, h9⟩
            exact absurd (h9.symm.trans hL) (by decide)
          revert nq; intro nq1
          have hcw2 : ∀ t, t < N → (wr.drewN nq1).cell? ⟨blk, off + t, none⟩ = some (.int .u64 (G t)) := hcw
          have hfw2 : ∀ t, t < N → (wr.drewN nq1).frozen? ⟨blk, off + t, none⟩ = false := hfw
          have HR2 : Hid (R w0 cs blk off N (wr.drewN nq1) dk) := HR.out.drew _
          clear hcw hfw HR
          generalize wr.drewN nq1 = wr2 at hcw2 hfw2 HR2 ⊢
          go_big_quiet (first | (go_at_call 76; refine Calls.quiet_of_same (less_any _ _ _)))
          go_wp2_with fail
          · have hS : ltInt (G (first + r)) (G (first + (2 * r + 1))) = false := by
              have h9 : (!ltInt (G (first + r)) (G (first + 2 * r + 1))) = true := by assumption
              rw [← Nat.add_assoc]; simpa using h9
            (try simp only [Exit.inBlock, Exit.then]); refine bodyPost_ret (results_none rfl _ _ _) rfl ?_
            refine ⟨rfl, ?_⟩
            have hE := HE.out
            rw [sift_end hend (c := 2 * r + 1) (HK.out) (by rw [← HG.out, ← HG.out]; exact hS)] at hE
            rw [← hE]
            exact HR2.out.drew _
          · have hS : ltInt (G (first + r)) (G (first + (2 * r + 1))) = true := by
              have h9 : (!ltInt (G (first + r)) (G (first + 2 * r + 1))) = false := by assumption
              rw [← Nat.add_assoc]; simpa using h9
            have hcw3 : ∀ t, t < N → (wr2.drewN nq).cell? ⟨blk, off + t, none⟩ = some (.int .u64 (G t)) := hcw2
            have hfw3 : ∀ t, t < N → (wr2.drewN nq).frozen? ⟨blk, off + t, none⟩ = false := hfw2
            have HR3 : Hid (R w0 cs blk off N (wr2.drewN nq) dk) := HR2.out.drew _
            clear hcw2 hfw2 HR2
            generalize wr2.drewN nq = wr3 at hcw3 hfw3 HR3 ⊢
            go_region
            go_wp2
            go_roundg (hi - (2 * r + 1))
            case measure => omega
            case rel =>
              refine ⟨2 * r + 1, swp dk (first + r) (first + (2 * r + 1)), by simp <;> omega, by omega, by omega, ?_, ?_⟩
              · rw [HG.out, HG.out]
                exact (HR3.out.swap (by omega) (by omega)).drew 1
              · have hE := HE.out
                rw [sift_go hend (c := 2 * r + 1) (HK.out) (by rw [← HG.out, ← HG.out]; exact hS)] at hE
                exact hE

      · have hk1 : decide (2 * (r : Int) + 1 + 1 < (hi : Int)) = false := decide_eq_false (by omega)
        have HK : Hid (kid hi first r dk = 2 * r + 1) := by
          show kid hi first r dk = _
          unfold kid
          rw [if_neg]
          rw [Bool.and_eq_true, decide_eq_true_eq]
          rintro ⟨h9, -⟩
          omega
        go_wp2_with fail
        go_big_quiet (first | (go_at_call 76; refine Calls.quiet_of_same (less_any _ _ _)))
        go_wp2_with fail
        revert nq; intro nq1
        have hcw2 : ∀ t, t < N → (wr.drewN nq1).cell? ⟨blk, off + t, none⟩ = some (.int .u64 (G t)) := hcw
        have hfw2 : ∀ t, t < N → (wr.drewN nq1).frozen? ⟨blk, off + t, none⟩ = false := hfw
        have HR2 : Hid (R w0 cs blk off N (wr.drewN nq1) dk) := HR.out.drew _
        clear hcw hfw HR
        generalize wr.drewN nq1 = wr2 at hcw2 hfw2 HR2 ⊢
        go_big_quiet (first | (go_at_call 76; refine Calls.quiet_of_same (less_any _ _ _)))
        go_wp2_with fail
        · have hS : ltInt (G (first + r)) (G (first + (2 * r + 1))) = false := by
            have h9 : (!ltInt (G (first + r)) (G (first + 2 * r + 1))) = true := by assumption
            rw [← Nat.add_assoc]; simpa using h9
          (try simp only [Exit.inBlock, Exit.then]); refine bodyPost_ret (results_none rfl _ _ _) rfl ?_
          refine ⟨rfl, ?_⟩
          have hE := HE.out
          rw [sift_end hend (c := 2 * r + 1) (HK.out) (by rw [← HG.out, ← HG.out]; exact hS)] at hE
          rw [← hE]
          exact HR2.out.drew _
        · have hS : ltInt (G (first + r)) (G (first + (2 * r + 1))) = true := by
            have h9 : (!ltInt (G (first + r)) (G (first + 2 * r + 1))) = false := by assumption
            rw [← Nat.add_assoc]; simpa using h9
          have hcw3 : ∀ t, t < N → (wr2.drewN nq).cell? ⟨blk, off + t, none⟩ = some (.int .u64 (G t)) := hcw2
          have hfw3 : ∀ t, t < N → (wr2.drewN nq).frozen? ⟨blk, off + t, none⟩ = false := hfw2
          have HR3 : Hid (R w0 cs blk off N (wr2.drewN nq) dk) := HR2.out.drew _
          clear hcw2 hfw2 HR2
          generalize wr2.drewN nq = wr3 at hcw3 hfw3 HR3 ⊢
          go_region
          go_wp2
          go_roundg (hi - (2 * r + 1))
          case measure => omega
          case rel =>
            refine ⟨2 * r + 1, swp dk (first + r) (first + (2 * r + 1)), by simp <;> omega, by omega, by omega, ?_, ?_⟩
            · rw [HG.out, HG.out]
              exact (HR3.out.swap (by omega) (by omega)).drew 1
            · have hE := HE.out
              rw [sift_go hend (c := 2 * r + 1) (HK.out) (by rw [← HG.out, ← HG.out]; exact hS)] at hE
              exact hE

end Go.Proofs.Qxb6614822aFmt
