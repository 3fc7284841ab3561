import Derived.Test.Qxb6614822aFmtSrt0
namespace Go.Proofs.Qxb6614822aFmt
open Go.RowKit Go.Sort

set_option maxRecDepth 20000 in
set_option maxHeartbeats 1000000 in
theorem ins_any (w0 : World) (cs : Array Value) (blk off N cap a b : Nat) (d : Array Int) (w : World) (hR : R w0 cs blk off N w d) (hab : a ≤ b) (hb : b ≤ N) (hN : N ≤ 1000000) :
    Calls Tryf.prog 78 #[.slice (some ⟨blk, off, none⟩) N cap, .int .i64 a, .int .i64 b] w fun e w' =>
      e = .returned (.tuple #[]) ∧ ∃ d', R w0 cs blk off N w' d' ∧ PermIn a b d d' ∧ SortedIn ltInt a b d' := by
  go_enter Tryf.func78, Tryf.ntmps78
  go_wp2
  go_loopg [6] b (fun t vi wr => ∃ (i : Nat) (dk : Array Int), vi = .int .i64 i ∧ a < i ∧ i ≤ b + 1 ∧ b ≤ i + t ∧ R w0 cs blk off N wr dk ∧ PermIn a b d dk ∧ SortedIn ltInt a (min i b) dk)
  case atStart => exact ⟨a + 1, d, by go_num, by omega, by omega, by omega, hR, permIn_refl _ _ _, fun i j h1 h2 h3 => by omega⟩
  case round =>
    obtain ⟨i, dk, rfl, h1, h2, h3, hRk, hP, hS⟩ := hrel
    clear hR
    by_cases hlt : i < b
    · obtain ⟨g1, hg1⟩ : ∃ t, t = gk := ⟨gk, rfl⟩
      have hI : Ins ltInt a i i dk := ⟨fun p q h4 h5 h6 h7 h8 => hS p q h4 h5 (by omega), fun q h4 h5 => by omega⟩
      have H3 : Hid (b ≤ i + g1) := by rw [hg1]; exact h3
      have HR : Hid (R w0 cs blk off N wr dk) := hRk
      have HP : Hid (PermIn a b d dk) := hP
      have HI : Hid (Ins ltInt a i i dk) := hI
      clear hRk hP hI hS h3
      go_wp2
      go_loopg [7] i (fun t vj wr => ∃ (j : Nat) (dj : Array Int), vj = .int .i64 j ∧ a ≤ j ∧ j ≤ i ∧ j ≤ t ∧ R w0 cs blk off N wr dj ∧ PermIn a b d dj ∧ Ins ltInt a j i dj)
      case atStart => exact ⟨i, dk, rfl, by omega, by omega, by omega, HR.out, HP.out, HI.out⟩
      case round =>
        clear HR HP HI
        obtain ⟨j, dj, rfl, h4, h5, h6, hRj, hPj, hI⟩ := hrel
        have out : (j ≤ a ∨ ltInt dj[j]! dj[j - 1]! = false) → SortedIn ltInt a (i + 1) dj := fun hs => hI.stop swo_ltInt hs
        have hcw := hRj.cell
        have hfw := hRj.frozen
        obtain ⟨G, hG⟩ : ∃ G : Nat → Int, ∀ t, G t = dj[t]! := ⟨fun t => dj[t]!, fun _ => rfl⟩
        simp only [← hG] at hcw
        have HR : Hid (R w0 cs blk off N wr dj) := hRj
        have HP : Hid (PermIn a b d dj) := hPj
        have HG : Hid (∀ t, G t = dj[t]!) := hG
        have HI : Hid (Ins ltInt a j i dj) := hI
        have OUT : Hid _ := out
        clear hRj hPj hG hI out
        by_cases hja : a < j
        · go_wp2
          go_quiet (first | (go_at_call 76; refine Calls.quiet_of_same (less_any _ _ _)))
          go_wp2
          · have hl : ltInt (G j) (G (j - 1)) = true := by assumption
            go_region
            all_goals go_wp2
            go_roundg (gk - 1)
            case measure => omega
            case rel =>
              have hs := HR.out.size
              refine ⟨j - 1, swp dj j (j - 1), by congr 1; omega, by omega, by omega, by omega, ?_, ?_, ?_⟩
              · rw [HG.out, HG.out]
                exact (HR.out.drew _).swap (i := j) (j := j - 1) (by omega) (by omega)
              · exact permIn_trans _ _ _ _ _ HP.out (swp_permIn _ _ _ _ _ (by omega) (by omega) (by omega) (by omega) (by omega))
              · have hI := HI.out
                obtain ⟨k, rfl⟩ : ∃ k, j = k + 1 := ⟨j - 1, by omega⟩
                rw [Nat.add_sub_cancel] at hl ⊢
                rw [HG.out, HG.out] at hl
                exact hI.step hl (by omega) (by omega)
          · have hl : ltInt (G j) (G (j - 1)) = false := by assumption
            go_roundg (g1 - 1)
            case measure => have := H3.out; omega
            case rel =>
              refine ⟨i + 1, dj, by go_num, by omega, by omega, by have := H3.out; omega, HR.out.drew _, HP.out, ?_⟩
              rw [show min (i + 1) b = i + 1 by omega]
              exact OUT.out (.inr (by rw [← HG.out, ← HG.out]; exact hl))
        · go_wp2
          go_quiet (first | (go_at_call 76; refine Calls.quiet_of_same (less_any _ _ _)))
          go_wp2
          go_roundg (g1 - 1)
          case measure => have := H3.out; omega
          case rel =>
            refine ⟨i + 1, dj, by go_num, by omega, by omega, by have := H3.out; omega, HR.out.drew _, HP.out, ?_⟩
            rw [show min (i + 1) b = i + 1 by omega]
            exact OUT.out (.inl (by omega))
    · go_wp2
      go_end0
      rw [show min i b = b by omega] at hS
      exact ⟨rfl, dk, hRk, hP, hS⟩
end Go.Proofs.Qxb6614822aFmt
