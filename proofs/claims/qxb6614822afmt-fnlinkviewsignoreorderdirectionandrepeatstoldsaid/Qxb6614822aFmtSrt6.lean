import Derived.Test.Qxb6614822aFmtSrt5
import Derived.Deep.DeepCutAuto
namespace Go.Proofs.Qxb6614822aFmt
open Go.RowKit Go.Sort

theorem swp_lt {d : Array Int} {i j k : Nat} (hi : k < i) (hj : k < j) : (swp d i j)[k]! = d[k]! := swp_other d i j k (by omega) (by omega)

set_option maxRecDepth 20000 in
set_option maxHeartbeats 4000000 in
theorem pins_any (w0 : World) (cs : Array Value) (blk off N cap a b : Nat) (d : Array Int) (w : World) (hR : R w0 cs blk off N w d) (hab : a < b) (hb : b ≤ N) (hN : N ≤ 1000000) (hBel : Go.Sort.Below ltInt a b d) :
    Calls Tryf.prog 83 #[.slice (some ⟨blk, off, none⟩) N cap, .int .i64 a, .int .i64 b] w fun e w' =>
      ∃ (r : Bool) (d' : Array Int), e = .returned (.bool r) ∧ R w0 cs blk off N w' d' ∧ PermIn a b d d' ∧ (r = true → SortedIn ltInt a b d') := by
  have hs0 := hR.size
  have HBel : Hid (Go.Sort.Below ltInt a b d) := hBel
  clear hBel
  go_enter Tryf.func83, Tryf.ntmps83
  go_wp2
  go_loopg [7, 8] 5 (fun t vi vj wr => ∃ (i c : Nat) (dk : Array Int), vi = .int .i64 i ∧ vj = .int .i64 c ∧ c + t = 5 ∧ a < i ∧ i ≤ b ∧ R w0 cs blk off N wr dk ∧ PermIn a b d dk ∧ SortedIn ltInt a i dk)
  case atStart => exact ⟨a + 1, 0, d, by go_num, rfl, by omega, by omega, by omega, hR, permIn_refl _ _ _, fun i j h1 h2 h3 => by omega⟩
  case round =>
    clear hR
    obtain ⟨i, c, dk, rfl, rfl, hc, h1, h2, hR, hP, hS⟩ := hrel
    have HP : Hid (PermIn a b d dk) := hP
    clear hP
    by_cases hend : c < 5
    · obtain ⟨g1, hg1⟩ : ∃ t, t = gk := ⟨gk, rfl⟩
      have HC : Hid (c + g1 = 5) := by rw [hg1]; exact hc
      clear hc
      obtain ⟨G, hG⟩ : ∃ G : Nat → Int, ∀ t, G t = dk[t]! := ⟨fun t => dk[t]!, fun _ => rfl⟩
      have HG : Hid (∀ t, G t = dk[t]!) := hG
      go_upto_block 2 with fail
      go_cut [7] (fun vi wx => ∃ i2 : Nat, vi = .int .i64 i2 ∧ i ≤ i2 ∧ i2 ≤ b ∧ R w0 cs blk off N wx dk ∧ SortedIn ltInt a i2 dk)
      case first =>
        go_wp2_with fail
        go_loopg [7] (b - i) (fun t vi wx => ∃ i2 : Nat, vi = .int .i64 i2 ∧ i ≤ i2 ∧ i2 ≤ b ∧ b ≤ i2 + t ∧ R w0 cs blk off N wx dk ∧ SortedIn ltInt a i2 dk)
        case atStart => exact ⟨i, rfl, by omega, by omega, by omega, hR, hS⟩
        case round =>
          clear hR hS
          obtain ⟨i2, rfl, k1, k2, k3, hR, hS⟩ := hrel
          have hcw := hR.cell
          have hfw := hR.frozen
          simp only [← hG] at hcw
          have HR : Hid (R w0 cs blk off N wr dk) := hR
          have HS : Hid (SortedIn ltInt a i2 dk) := hS
          clear hR hS hG
          by_cases hle : i2 < b
          · have hd : decide ((i2 : Int) < (b : Int)) = true := decide_eq_true (by omega)
            go_wp2_with fail
            go_big_quiet (first | (go_at_call 76; refine Calls.quiet_of_same (less_any _ _ _)))
            go_wp2_with fail
            · have hl : (!ltInt (G i2) (G (i2 - 1))) = true := by assumption
              go_roundg (gk - 1)
              case measure => omega
              case rel =>
                exact ⟨i2 + 1, by go_num, by omega, by omega, by omega, HR.out.drew _, SortedIn.snoc swo_ltInt HS.out (by rw [← HG.out, ← HG.out]; simpa using hl)⟩
            · go_meet
              case rel => exact ⟨i2, rfl, k1, k2, HR.out.drew _, HS.out⟩
          · have hd : decide ((i2 : Int) < (b : Int)) = false := decide_eq_false (by omega)
            go_wp2_with fail
            go_big_quiet (first | (go_at_call 76; refine Calls.quiet_of_same (less_any _ _ _)))
            go_wp2_with fail
            go_meet
            case rel => exact ⟨i2, rfl, k1, k2, HR.out.drew _, HS.out⟩
      case rest =>
        clear hR hS
        obtain ⟨i2, rfl, k1, k2, hR, hS⟩ := hcut
        by_cases hib : i2 = b
        · subst hib
          go_wp2
          go_ret
          exact ⟨true, dk, rfl, hR, HP.out, fun _ => hS⟩
        · have hibf : ((i2 : Int) == (b : Int)) = false := by simp; omega
          by_cases h50 : b - a < 50
          · go_wp2
            go_ret
            exact ⟨false, dk, rfl, hR, HP.out, fun h => by cases h⟩
          · have hs := hR.size
            have hcw := hR.cell
            have hfw := hR.frozen
            simp only [← hG] at hcw
            have HR : Hid (R w0 cs blk off N _ dk) := hR
            have HS : Hid (SortedIn ltInt a i2 dk) := hS
            clear hR hS hG
            go_wp2_with fail
            go_region
            -- behind the first swap
            have HP2 : Hid (PermIn a b d (swp dk i2 (i2 - 1))) := permIn_trans _ _ _ _ _ HP.out (swp_permIn _ _ _ _ _ (by omega) (by omega) (by omega) (by omega) (by omega))
            have HI2 : Hid (Ins ltInt a (i2 - 1) (i2 - 1) (swp dk i2 (i2 - 1))) :=
              ⟨fun p q q1 q2 q3 q4 q5 => by rw [swp_lt (by omega) (by omega), swp_lt (by omega) (by omega)]; exact HS.out p q q1 q2 (by omega), fun q q1 q2 => by omega⟩
            have hR2 : R w0 cs blk off N (((World.setCell _ _ _).setCell _ _).drew) (swp dk i2 (i2 - 1)) := (HR.out.swap (i := i2) (j := i2 - 1) (by omega) (by omega)).drew 1
            rw [← HG.out, ← HG.out] at hR2
            generalize swp dk i2 (i2 - 1) = dm at HP2 HI2 hR2
            clear HR HS HG hcw hfw HP
            generalize ((wc.setCell ⟨blk, off + i2, none⟩ (.int .u64 (G (i2 - 1)))).setCell ⟨blk, off + (i2 - 1), none⟩ (.int .u64 (G i2))).drew = wm at hR2 ⊢
            clear hs
            go_upto_if 61 with fail
            go_cut [9] (fun v9 wx => ∃ dn : Array Int, R w0 cs blk off N wx dn ∧ PermIn a b d dn ∧ SortedIn ltInt a i2 dn)
            case first =>
              by_cases h2a : i2 - a ≥ 2
              · go_wp2_with fail
                go_loopg [9] (i2 - 1) (fun t vj wr => ∃ (j : Nat) (z : Int) (dj : Array Int), vj = .int .i64 z ∧ z = j ∧ a ≤ j ∧ j ≤ i2 - 1 ∧ j ≤ t ∧ R w0 cs blk off N wr dj ∧ PermIn a b d dj ∧ Ins ltInt a j (i2 - 1) dj)
                case atStart => exact ⟨i2 - 1, _, dm, rfl, by omega, by omega, by omega, by omega, hR2, HP2.out, HI2.out⟩
                case round =>
                  clear hR2 HP2 HI2
                  obtain ⟨j, z, dj, rfl, rfl, q1, q2, q3, hR, hP, hI⟩ := hrel
                  have hs := hR.size
                  have out : (j ≤ a ∨ ltInt dj[j]! dj[j - 1]! = false) → SortedIn ltInt a i2 dj := fun h9 => by
                    have := hI.stop swo_ltInt h9
                    rw [show i2 - 1 + 1 = i2 by omega] at this
                    exact this
                  have bel : 1 ≤ a → ltInt dj[a]! dj[a - 1]! = false := fun h9 => by
                    rcases Below.perm HBel.out (by omega) hP with h8 | h8
                    · omega
                    · exact h8 a (by omega) (by omega)
                  obtain ⟨G, hG⟩ : ∃ G : Nat → Int, ∀ t, G t = dj[t]! := ⟨fun t => dj[t]!, fun _ => rfl⟩
                  have HG : Hid (∀ t, G t = dj[t]!) := hG
                  have hcw := hR.cell
                  have hfw := hR.frozen
                  simp only [← hG] at hcw
                  have HR : Hid (R w0 cs blk off N wr dj) := hR
                  have HP : Hid (PermIn a b d dj) := hP
                  have HI : Hid (Ins ltInt a j (i2 - 1) dj) := hI
                  have OUT : Hid _ := out
                  have BEL : Hid _ := bel
                  clear hR hP hI hG out bel
                  by_cases hj1 : 1 ≤ j
                  · go_wp2_with fail
                    go_big_quiet (first | (go_at_call 76; refine Calls.quiet_of_same (less_any _ _ _)))
                    go_wp2_with fail
                    · have hl : (!ltInt (G j) (G (j - 1))) = true := by assumption
                      go_meet
                      case rel => exact ⟨dj, HR.out.drew _, HP.out, OUT.out (.inr (by rw [← HG.out, ← HG.out]; simpa using hl))⟩
                    · have hl : (!ltInt (G j) (G (j - 1))) = false := by assumption
                      have hl2 : ltInt (G j) (G (j - 1)) = true := by simpa using hl
                      have hja : a < j := by
                        rcases Nat.lt_or_ge a j with h9 | h9
                        · exact h9
                        · obtain rfl : j = a := by omega
                          have h8 := BEL.out hj1
                          rw [← HG.out, ← HG.out] at h8
                          exact absurd (h8.symm.trans hl2) (by decide)
                      go_region
                      all_goals go_wp2
                      go_roundg (gk - 1)
                      case measure => omega
                      case rel =>
                        refine ⟨j - 1, _, swp dj j (j - 1), rfl, by omega, by omega, by omega, by omega, ?_, ?_, ?_⟩
                        · rw [HG.out, HG.out]
                          exact (HR.out.drew _).swap (i := j) (j := j - 1) (by omega) (by omega)
                        · exact permIn_trans _ _ _ _ _ HP.out (swp_permIn _ _ _ _ _ (by omega) (by omega) (by omega) (by omega) (by omega))
                        · have hI := HI.out
                          obtain ⟨k, rfl⟩ : ∃ k, j = k + 1 := ⟨j - 1, by omega⟩
                          rw [Nat.add_sub_cancel] at hl2 ⊢
                          rw [HG.out, HG.out] at hl2
                          exact hI.step hl2 (by omega) (by omega)
                  · go_wp2_with fail
                    go_meet
                    case rel => exact ⟨dj, HR.out, HP.out, OUT.out (.inl (by omega))⟩
              · go_wp2_with fail
                go_meet
                case rel => exact ⟨dm, hR2, HP2.out, fun p q q1 q2 q3 => by omega⟩
            case rest =>
              clear hR2 HP2 HI2
              obtain ⟨dn, hR2, hP2, hS2⟩ := hcut
              have HP2 : Hid (PermIn a b d dn) := hP2
              have HS2 : Hid (SortedIn ltInt a i2 dn) := hS2
              clear hP2 hS2
              by_cases h2b : b - i2 ≥ 2
              · go_wp2_with fail
                go_loopg [10] b (fun t vj wr => ∃ (j : Nat) (dj : Array Int), vj = .int .i64 j ∧ i2 < j ∧ j ≤ b ∧ b ≤ j + t ∧ R w0 cs blk off N wr dj ∧ PermIn a b d dj ∧ SortedIn ltInt a i2 dj)
                case atStart => exact ⟨i2 + 1, dn, by go_num, by omega, by omega, by omega, hR2, HP2.out, HS2.out⟩
                case round =>
                  clear hR2 HP2 HS2
                  obtain ⟨j, dj, rfl, q1, q2, q3, hR, hP, hS⟩ := hrel
                  have hs := hR.size
                  obtain ⟨G, hG⟩ : ∃ G : Nat → Int, ∀ t, G t = dj[t]! := ⟨fun t => dj[t]!, fun _ => rfl⟩
                  have HG : Hid (∀ t, G t = dj[t]!) := hG
                  have hcw := hR.cell
                  have hfw := hR.frozen
                  simp only [← hG] at hcw
                  have HR : Hid (R w0 cs blk off N wr dj) := hR
                  have HP : Hid (PermIn a b d dj) := hP
                  have HS : Hid (SortedIn ltInt a i2 dj) := hS
                  clear hR hP hS hG
                  by_cases hj1 : j < b
                  · go_wp2_with fail
                    go_big_quiet (first | (go_at_call 76; refine Calls.quiet_of_same (less_any _ _ _)))
                    go_wp2_with fail
                    · go_roundg (g1 - 1)
                      case measure => have := HC.out; omega
                      case rel => exact ⟨i2, c + 1, dj, rfl, by go_num, by have := HC.out; omega, by omega, by omega, HR.out.drew _, HP.out, HS.out⟩
                    · go_region
                      all_goals go_wp2
                      go_roundg (gk - 1)
                      case measure => omega
                      case rel =>
                        refine ⟨j + 1, swp dj j (j - 1), by go_num, by omega, by omega, by omega, ?_, ?_, ?_⟩
                        · rw [HG.out, HG.out]
                          exact (HR.out.drew _).swap (i := j) (j := j - 1) (by omega) (by omega)
                        · exact permIn_trans _ _ _ _ _ HP.out (swp_permIn _ _ _ _ _ (by omega) (by omega) (by omega) (by omega) (by omega))
                        · exact SortedIn.congr HS.out fun k e1 e2 => swp_lt (by omega) (by omega)
                  · go_wp2_with fail
                    go_roundg (g1 - 1)
                    case measure => have := HC.out; omega
                    case rel => exact ⟨i2, c + 1, dj, rfl, by go_num, by have := HC.out; omega, by omega, by omega, HR.out, HP.out, HS.out⟩
              · go_wp2_with fail
                go_roundg (g1 - 1)
                case measure => have := HC.out; omega
                case rel => exact ⟨i2, c + 1, dn, rfl, by go_num, by have := HC.out; omega, by omega, by omega, hR2, HP2.out, HS2.out⟩
    · go_wp2
      go_ret
      exact ⟨false, dk, rfl, hR, HP.out, fun h => by cases h⟩
end Go.Proofs.Qxb6614822aFmt
