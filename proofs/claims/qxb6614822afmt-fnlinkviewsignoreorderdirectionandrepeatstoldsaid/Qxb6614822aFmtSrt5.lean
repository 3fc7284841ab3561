import Derived.Test.Qxb6614822aFmtSrt4
namespace Go.Proofs.Qxb6614822aFmt
open Go.RowKit Go.Sort

/-- between a and i all are less than p; from j + 1 on none is -/
structure PT (a b i j : Nat) (p : Int) (d : Array Int) : Prop where
  piv : d[a]! = p
  lo : ∀ k, a < k → k < i → d[k]! < p
  hi : ∀ k, j < k → k < b → p ≤ d[k]!

/-- partition's end -/
structure PF (a b mid : Nat) (p : Int) (d : Array Int) : Prop where
  piv : d[mid]! = p
  lo : ∀ k, a ≤ k → k < mid → d[k]! < p
  hi : ∀ k, mid < k → k < b → p ≤ d[k]!

theorem PT.fin {a b j : Nat} {p : Int} {d : Array Int} (h : PT a b (j + 1) j p d) (haj : a ≤ j) (hj : j < d.size) : PF a b j p (swp d j a) := by
  have g := swp_get d hj (show a < d.size by omega)
  refine ⟨?_, fun k h1 h2 => ?_, fun k h1 h2 => ?_⟩
  · rw [g]
    by_cases e : j = a
    · rw [if_pos e, e]; exact h.piv
    · rw [if_neg e, if_pos rfl]; exact h.piv
  · rw [g]
    by_cases e : k = a
    · rw [if_pos e]; exact h.lo j (by omega) (by omega)
    · rw [if_neg e, if_neg (by omega)]; exact h.lo k (by omega) (by omega)
  · rw [g, if_neg (by omega), if_neg (by omega)]; exact h.hi k h1 h2

theorem PT.mid {a b i j : Nat} {p : Int} {d : Array Int} (h : PT a b i j p d) (hai : a < i) (hij : i < j) (hj : j < d.size) (_hjb : j < b) (h1 : p ≤ d[i]!) (h2 : d[j]! < p) : PT a b (i + 1) (j - 1) p (swp d i j) := by
  have g := swp_get d (show i < d.size by omega) hj
  refine ⟨?_, fun k q1 q2 => ?_, fun k q1 q2 => ?_⟩
  · rw [g, if_neg (by omega), if_neg (by omega)]; exact h.piv
  · rw [g, if_neg (by omega)]
    by_cases e : k = i
    · rw [if_pos e]; exact h2
    · rw [if_neg e]; exact h.lo k q1 (by omega)
  · rw [g]
    by_cases e : k = j
    · rw [if_pos e]; exact h1
    · rw [if_neg e, if_neg (by omega)]; exact h.hi k (by omega) q2

set_option maxRecDepth 20000 in
set_option maxHeartbeats 4000000 in
theorem part_any (w0 : World) (cs : Array Value) (blk off N cap a b pivot : Nat) (d : Array Int) (w : World) (hR : R w0 cs blk off N w d) (hap : a ≤ pivot) (hpb : pivot < b) (hb : b ≤ N) (hN : N ≤ 1000000) :
    Calls Tryf.prog 85 #[.slice (some ⟨blk, off, none⟩) N cap, .int .i64 a, .int .i64 b, .int .i64 pivot] w fun e w' =>
      ∃ (mid : Nat) (d' : Array Int) (al : Bool), e = .returned (.tuple #[.int .i64 mid, .bool al]) ∧ a ≤ mid ∧ mid < b ∧ R w0 cs blk off N w' d' ∧ PermIn a b d d' ∧ PF a b mid d[pivot]! d' := by
  have hs := hR.size
  have hcw := hR.cell
  have hfw := hR.frozen
  obtain ⟨G, hG⟩ : ∃ G : Nat → Int, ∀ t, G t = d[t]! := ⟨fun t => d[t]!, fun _ => rfl⟩
  simp only [← hG] at hcw
  obtain ⟨v1, hv1⟩ := hR.alias a (.int .u64 (G pivot)) (show pivot < N by omega)
  have HR : Hid (R w0 cs blk off N ((w.setCell ⟨blk, off + a, none⟩ (.int .u64 (G pivot))).setCell ⟨blk, off + pivot, none⟩ (.int .u64 (G a))).drew (swp d a pivot)) := by
    rw [hG, hG]; exact (hR.swap (i := a) (j := pivot) (by omega) (by omega)).drew 1
  have HP : Hid (PermIn a b d (swp d a pivot)) := swp_permIn _ _ _ _ _ (by omega) (by omega) (by omega) (by omega) (by omega)
  have HQ : Hid (PT a b (a + 1) (b - 1) d[pivot]! (swp d a pivot)) := by
    have e := swp_get d (show a < d.size by omega) (show pivot < d.size by omega) a
    have e2 : (swp d a pivot)[a]! = d[pivot]! := by
      rw [e]
      by_cases h9 : a = pivot
      · rw [if_pos h9, h9]
      · rw [if_neg h9, if_pos rfl]
    exact ⟨e2, fun k h1 h2 => by omega, fun k h1 h2 => by omega⟩
  clear hR hG
  generalize hp : d[pivot]! = p at HQ ⊢
  clear hp
  go_enter Tryf.func85, Tryf.ntmps85
  go_wp2_with fail
  go_region
  clear hcw hfw hv1
  obtain ⟨B, hB⟩ : ∃ B, b = B + 1 := ⟨b - 1, by omega⟩
  generalize (((w.setCell ⟨blk, off + a, none⟩ (.int .u64 (G pivot))).setCell ⟨blk, off + pivot, none⟩ (.int .u64 (G a))).drew) = w1 at HR ⊢
  generalize swp d a pivot = dk at HR HP HQ
  have hR := HR.out
  have hQ : PT a b (a + 1) B p dk := by have := HQ.out; rw [hB, Nat.add_sub_cancel] at this; rw [hB]; exact this
  clear HR HQ
  obtain ⟨G, hG⟩ : ∃ G : Nat → Int, ∀ t, G t = dk[t]! := ⟨fun t => dk[t]!, fun _ => rfl⟩
  have HG : Hid (∀ t, G t = dk[t]!) := hG
  have HPV : Hid (G a = p) := (hG a).trans hQ.piv
  go_upto_block 0 with fail
  go_cut [10] (fun vi wx => ∃ i2 : Nat, vi = .int .i64 i2 ∧ a + 1 ≤ i2 ∧ i2 ≤ B + 1 ∧ R w0 cs blk off N wx dk ∧ PT a b i2 (B) p dk ∧ (i2 ≤ B → p ≤ G i2))
  case first =>
    go_wp2_with fail
    go_loopg [10] (B + 1 - (a + 1)) (fun t vi wx => ∃ i2 : Nat, vi = .int .i64 i2 ∧ a + 1 ≤ i2 ∧ i2 ≤ B + 1 ∧ B + 1 ≤ i2 + t ∧ R w0 cs blk off N wx dk ∧ PT a b i2 (B) p dk)
    case atStart => exact ⟨a + 1, by first | rfl | go_num, by omega, by omega, by omega, hR, hQ⟩
    case round =>
      clear hR hQ
      obtain ⟨i2, rfl, k1, k2, k3, hR, hQ⟩ := hrel
      have hcw := hR.cell
      have hfw := hR.frozen
      simp only [← hG] at hcw
      have HR : Hid (R w0 cs blk off N wr dk) := hR
      have HQ : Hid (PT a b i2 (B) p dk) := hQ
      clear hR hQ hG
      by_cases hle : i2 ≤ B
      · have hd : decide ((i2 : Int) ≤ (B : Int)) = true := decide_eq_true (by omega)
        go_wp2_with fail
        go_big_quiet (first | (go_at_call 76; refine Calls.quiet_of_same (less_any _ _ _)))
        go_wp2_with fail
        · have hl : ltInt (G i2) (G a) = true := by assumption
          go_roundg (gk - 1)
          case measure => omega
          case rel =>
            refine ⟨i2 + 1, by go_num, by omega, by omega, by omega, HR.out.drew _, ⟨HQ.out.piv, fun k q1 q2 => ?_, HQ.out.hi⟩⟩
            by_cases e : k = i2
            · subst e
              rw [← HG.out, ← HPV.out]; exact ltI_t hl
            · exact HQ.out.lo k q1 (by omega)
        · have hl : ltInt (G i2) (G a) = false := by assumption
          go_meet
          case rel =>
            exact ⟨i2, rfl, k1, k2, HR.out.drew _, HQ.out, fun _ => by rw [← HPV.out]; exact ltI_f hl⟩
      · have hd : decide ((i2 : Int) ≤ (B : Int)) = false := decide_eq_false (by omega)
        go_wp2_with fail
        go_big_quiet (first | (go_at_call 76; refine Calls.quiet_of_same (less_any _ _ _)))
        go_wp2_with fail
        go_meet
        case rel =>
          exact ⟨i2, rfl, k1, k2, HR.out.drew _, HQ.out, fun h => absurd h hle⟩
  case rest =>
    clear hR hQ
    obtain ⟨i2, rfl, k1, k2, hR, hQ, hstop1⟩ := hcut
    go_upto_block 2 with fail
    go_cut [11] (fun vj wx => ∃ j2 : Nat, vj = .int .i64 j2 ∧ j2 ≤ B ∧ i2 ≤ j2 + 1 ∧ R w0 cs blk off N wx dk ∧ PT a b i2 j2 p dk ∧ (i2 ≤ j2 → G j2 < p))
    case first =>
      go_wp2_with fail
      go_loopg [11] (B + 1 - i2) (fun t vj wx => ∃ j2 : Nat, vj = .int .i64 j2 ∧ j2 ≤ B ∧ i2 ≤ j2 + 1 ∧ j2 + 1 ≤ i2 + t ∧ R w0 cs blk off N wx dk ∧ PT a b i2 j2 p dk)
      case atStart => exact ⟨B, by first | rfl | go_num, by omega, by omega, by omega, hR, hQ⟩
      case round =>
        clear hR hQ
        obtain ⟨j2, rfl, k3, k4, k5, hR, hQ⟩ := hrel
        have hcw := hR.cell
        have hfw := hR.frozen
        simp only [← hG] at hcw
        have HR : Hid (R w0 cs blk off N wr dk) := hR
        have HQ : Hid (PT a b i2 j2 p dk) := hQ
        clear hR hQ hG
        by_cases hle : i2 ≤ j2
        · have hd : decide ((i2 : Int) ≤ (j2 : Int)) = true := decide_eq_true (by omega)
          go_wp2_with fail
          go_big_quiet (first | (go_at_call 76; refine Calls.quiet_of_same (less_any _ _ _)))
          go_wp2_with fail
          · have hl : (!ltInt (G j2) (G a)) = true := by assumption
            go_roundg (gk - 1)
            case measure => omega
            case rel =>
              refine ⟨j2 - 1, by congr 1; omega, by omega, by omega, by omega, HR.out.drew _, ⟨HQ.out.piv, HQ.out.lo, fun k q1 q2 => ?_⟩⟩
              by_cases e : k = j2
              · subst e
                rw [← HG.out, ← HPV.out]; exact ltI_f (by simpa using hl)
              · exact HQ.out.hi k (by omega) q2
          · have hl : (!ltInt (G j2) (G a)) = false := by assumption
            go_meet
            case rel =>
              exact ⟨j2, rfl, k3, k4, HR.out.drew _, HQ.out, fun _ => by rw [← HPV.out]; exact ltI_t (by simpa using hl)⟩
        · have hd : decide ((i2 : Int) ≤ (j2 : Int)) = false := decide_eq_false (by omega)
          go_wp2_with fail
          go_big_quiet (first | (go_at_call 76; refine Calls.quiet_of_same (less_any _ _ _)))
          go_wp2_with fail
          go_meet
          case rel =>
            exact ⟨j2, rfl, k3, k4, HR.out.drew _, HQ.out, fun h => absurd h hle⟩
    case rest =>
      clear hR hQ
      obtain ⟨j2, rfl, k3, k4, hR, hQ, hstop2⟩ := hcut
      by_cases hgt : j2 < i2
      · have hcw := hR.cell
        have hfw := hR.frozen
        simp only [← hG] at hcw
        obtain ⟨v2, hv2⟩ := hR.alias j2 (.int .u64 (G a)) (show a < N by omega)
        have HR : Hid (R w0 cs blk off N _ dk) := hR
        have HQ : Hid (PT a b i2 j2 p dk) := hQ
        clear hR hQ hG hstop1 hstop2
        go_wp2
        go_region
        go_wp2
        go_ret2
        have hi2 : i2 = j2 + 1 := by omega
        have hs := HR.out.size
        refine ⟨j2, swp dk j2 a, true, rfl, by omega, by omega, ?_, ?_, PT.fin (by have := HQ.out; rw [hi2] at this; exact this) (by omega) (by omega)⟩
        · rw [HG.out, HG.out]
          exact (HR.out.swap (i := j2) (j := a) (by omega) (by omega)).drew 1
        · exact permIn_trans _ _ _ _ _ HP.out (swp_permIn _ _ _ _ _ (by omega) (by omega) (by omega) (by omega) (by omega))

      · have hlt : i2 < j2 := by
          rcases Nat.lt_or_ge i2 j2 with h9 | h9
          · exact h9
          · obtain rfl : i2 = j2 := by omega
            have e1 := hstop1 (by omega)
            have e2 := hstop2 (by omega)
            omega
        have hs := hR.size
        have hcw := hR.cell
        have hfw := hR.frozen
        simp only [← hG] at hcw
        have HS1 : Hid (p ≤ G i2) := hstop1 (by omega)
        have HS2 : Hid (G j2 < p) := hstop2 (by omega)
        have HR : Hid (R w0 cs blk off N _ dk) := hR
        have HQ : Hid (PT a b i2 j2 p dk) := hQ
        have HQ2 : Hid (PT a b (i2 + 1) (j2 - 1) p (swp dk i2 j2)) := PT.mid HQ.out (by omega) hlt (by omega) (by omega) (by rw [← HG.out]; exact HS1.out) (by rw [← HG.out]; exact HS2.out)
        have HP2 : Hid (PermIn a b d (swp dk i2 j2)) := permIn_trans _ _ _ _ _ HP.out (swp_permIn _ _ _ _ _ (by omega) (by omega) (by omega) (by omega) (by omega))
        clear hR hQ hG hstop1 hstop2 HS1 HS2 HQ
        go_wp2
        go_region
        go_wp2
        go_loopg [10, 11] b (fun t vi vj wr => ∃ (i j : Nat) (dk : Array Int), vi = .int .i64 i ∧ vj = .int .i64 j ∧ a < i ∧ i ≤ j + 1 ∧ j < b ∧ j + 1 ≤ i + t ∧ R w0 cs blk off N wr dk ∧ PermIn a b d dk ∧ PT a b i j p dk)
        case atStart =>
          exact ⟨i2 + 1, j2 - 1, swp dk i2 j2, by go_num, by congr 1; omega, by omega, by omega, by omega, by omega, by
            rw [HG.out, HG.out]
            exact (HR.out.swap (i := i2) (j := j2) (by omega) (by omega)).drew 1, HP2.out, HQ2.out⟩

        case round =>
          clear HR HP2 HQ2 hcw hfw HG HPV HP
          obtain ⟨i, j, dk, rfl, rfl, h1, h2, h3, h4, hR, hP, hQ⟩ := hrel
          have HP : Hid (PermIn a b d dk) := hP
          clear hP
          obtain ⟨g1, hg1⟩ : ∃ t, t = gk := ⟨gk, rfl⟩
          have H4 : Hid (j + 1 ≤ i + g1) := by rw [hg1]; exact h4
          clear h4
          obtain ⟨G, hG⟩ : ∃ G : Nat → Int, ∀ t, G t = dk[t]! := ⟨fun t => dk[t]!, fun _ => rfl⟩
          have HG : Hid (∀ t, G t = dk[t]!) := hG
          have HPV : Hid (G a = p) := (hG a).trans hQ.piv
          go_upto_block 6 with fail
          go_cut [10] (fun vi wx => ∃ i2 : Nat, vi = .int .i64 i2 ∧ i ≤ i2 ∧ i2 ≤ j + 1 ∧ R w0 cs blk off N wx dk ∧ PT a b i2 (j) p dk ∧ (i2 ≤ j → p ≤ G i2))
          case first =>
            go_wp2_with fail
            go_loopg [10] (j + 1 - (i)) (fun t vi wx => ∃ i2 : Nat, vi = .int .i64 i2 ∧ i ≤ i2 ∧ i2 ≤ j + 1 ∧ j + 1 ≤ i2 + t ∧ R w0 cs blk off N wx dk ∧ PT a b i2 (j) p dk)
            case atStart => exact ⟨i, by first | rfl | go_num, by omega, by omega, by omega, hR, hQ⟩
            case round =>
              clear hR hQ
              obtain ⟨i2, rfl, k1, k2, k3, hR, hQ⟩ := hrel
              have hcw := hR.cell
              have hfw := hR.frozen
              simp only [← hG] at hcw
              have HR : Hid (R w0 cs blk off N wr dk) := hR
              have HQ : Hid (PT a b i2 (j) p dk) := hQ
              clear hR hQ hG
              by_cases hle : i2 ≤ j
              · have hd : decide ((i2 : Int) ≤ (j : Int)) = true := decide_eq_true (by omega)
                go_wp2_with fail
                go_big_quiet (first | (go_at_call 76; refine Calls.quiet_of_same (less_any _ _ _)))
                go_wp2_with fail
                · have hl : ltInt (G i2) (G a) = true := by assumption
                  go_roundg (gk - 1)
                  case measure => omega
                  case rel =>
                    refine ⟨i2 + 1, by go_num, by omega, by omega, by omega, HR.out.drew _, ⟨HQ.out.piv, fun k q1 q2 => ?_, HQ.out.hi⟩⟩
                    by_cases e : k = i2
                    · subst e
                      rw [← HG.out, ← HPV.out]; exact ltI_t hl
                    · exact HQ.out.lo k q1 (by omega)
                · have hl : ltInt (G i2) (G a) = false := by assumption
                  go_meet
                  case rel =>
                    exact ⟨i2, rfl, k1, k2, HR.out.drew _, HQ.out, fun _ => by rw [← HPV.out]; exact ltI_f hl⟩
              · have hd : decide ((i2 : Int) ≤ (j : Int)) = false := decide_eq_false (by omega)
                go_wp2_with fail
                go_big_quiet (first | (go_at_call 76; refine Calls.quiet_of_same (less_any _ _ _)))
                go_wp2_with fail
                go_meet
                case rel =>
                  exact ⟨i2, rfl, k1, k2, HR.out.drew _, HQ.out, fun h => absurd h hle⟩
          case rest =>
            clear hR hQ
            obtain ⟨i2, rfl, k1, k2, hR, hQ, hstop1⟩ := hcut
            go_upto_block 8 with fail
            go_cut [11] (fun vj wx => ∃ j2 : Nat, vj = .int .i64 j2 ∧ j2 ≤ j ∧ i2 ≤ j2 + 1 ∧ R w0 cs blk off N wx dk ∧ PT a b i2 j2 p dk ∧ (i2 ≤ j2 → G j2 < p))
            case first =>
              go_wp2_with fail
              go_loopg [11] (j + 1 - i2) (fun t vj wx => ∃ j2 : Nat, vj = .int .i64 j2 ∧ j2 ≤ j ∧ i2 ≤ j2 + 1 ∧ j2 + 1 ≤ i2 + t ∧ R w0 cs blk off N wx dk ∧ PT a b i2 j2 p dk)
              case atStart => exact ⟨j, by first | rfl | go_num, by omega, by omega, by omega, hR, hQ⟩
              case round =>
                clear hR hQ
                obtain ⟨j2, rfl, k3, k4, k5, hR, hQ⟩ := hrel
                have hcw := hR.cell
                have hfw := hR.frozen
                simp only [← hG] at hcw
                have HR : Hid (R w0 cs blk off N wr dk) := hR
                have HQ : Hid (PT a b i2 j2 p dk) := hQ
                clear hR hQ hG
                by_cases hle : i2 ≤ j2
                · have hd : decide ((i2 : Int) ≤ (j2 : Int)) = true := decide_eq_true (by omega)
                  go_wp2_with fail
                  go_big_quiet (first | (go_at_call 76; refine Calls.quiet_of_same (less_any _ _ _)))
                  go_wp2_with fail
                  · have hl : (!ltInt (G j2) (G a)) = true := by assumption
                    go_roundg (gk - 1)
                    case measure => omega
                    case rel =>
                      refine ⟨j2 - 1, by congr 1; omega, by omega, by omega, by omega, HR.out.drew _, ⟨HQ.out.piv, HQ.out.lo, fun k q1 q2 => ?_⟩⟩
                      by_cases e : k = j2
                      · subst e
                        rw [← HG.out, ← HPV.out]; exact ltI_f (by simpa using hl)
                      · exact HQ.out.hi k (by omega) q2
                  · have hl : (!ltInt (G j2) (G a)) = false := by assumption
                    go_meet
                    case rel =>
                      exact ⟨j2, rfl, k3, k4, HR.out.drew _, HQ.out, fun _ => by rw [← HPV.out]; exact ltI_t (by simpa using hl)⟩
                · have hd : decide ((i2 : Int) ≤ (j2 : Int)) = false := decide_eq_false (by omega)
                  go_wp2_with fail
                  go_big_quiet (first | (go_at_call 76; refine Calls.quiet_of_same (less_any _ _ _)))
                  go_wp2_with fail
                  go_meet
                  case rel =>
                    exact ⟨j2, rfl, k3, k4, HR.out.drew _, HQ.out, fun h => absurd h hle⟩
            case rest =>
              clear hR hQ
              obtain ⟨j2, rfl, k3, k4, hR, hQ, hstop2⟩ := hcut
              by_cases hgt : j2 < i2
              · have hcw := hR.cell
                have hfw := hR.frozen
                simp only [← hG] at hcw
                obtain ⟨v2, hv2⟩ := hR.alias j2 (.int .u64 (G a)) (show a < N by omega)
                have HR : Hid (R w0 cs blk off N _ dk) := hR
                have HQ : Hid (PT a b i2 j2 p dk) := hQ
                clear hR hQ hG hstop1 hstop2
                go_wp2
                go_region
                go_wp2
                go_ret2
                have hi2 : i2 = j2 + 1 := by omega
                have hs := HR.out.size
                refine ⟨j2, swp dk j2 a, false, rfl, by omega, by omega, ?_, ?_, PT.fin (by have := HQ.out; rw [hi2] at this; exact this) (by omega) (by omega)⟩
                · rw [HG.out, HG.out]
                  exact (HR.out.swap (i := j2) (j := a) (by omega) (by omega)).drew 1
                · exact permIn_trans _ _ _ _ _ HP.out (swp_permIn _ _ _ _ _ (by omega) (by omega) (by omega) (by omega) (by omega))

              · have hlt : i2 < j2 := by
                  rcases Nat.lt_or_ge i2 j2 with h9 | h9
                  · exact h9
                  · obtain rfl : i2 = j2 := by omega
                    have e1 := hstop1 (by omega)
                    have e2 := hstop2 (by omega)
                    omega
                have hs := hR.size
                have hcw := hR.cell
                have hfw := hR.frozen
                simp only [← hG] at hcw
                have HS1 : Hid (p ≤ G i2) := hstop1 (by omega)
                have HS2 : Hid (G j2 < p) := hstop2 (by omega)
                have HR : Hid (R w0 cs blk off N _ dk) := hR
                have HQ : Hid (PT a b i2 j2 p dk) := hQ
                have HQ2 : Hid (PT a b (i2 + 1) (j2 - 1) p (swp dk i2 j2)) := PT.mid HQ.out (by omega) hlt (by omega) (by omega) (by rw [← HG.out]; exact HS1.out) (by rw [← HG.out]; exact HS2.out)
                have HP2 : Hid (PermIn a b d (swp dk i2 j2)) := permIn_trans _ _ _ _ _ HP.out (swp_permIn _ _ _ _ _ (by omega) (by omega) (by omega) (by omega) (by omega))
                clear hR hQ hG hstop1 hstop2 HS1 HS2 HQ
                go_wp2
                go_region
                go_wp2
                go_roundg (g1 - 1)
                case measure => have := H4.out; omega
                case rel => exact ⟨i2 + 1, j2 - 1, swp dk i2 j2, by go_num, by congr 1; omega, by omega, by omega, by omega, by have := H4.out; omega, by
                  rw [HG.out, HG.out]
                  exact (HR.out.swap (i := i2) (j := j2) (by omega) (by omega)).drew 1, HP2.out, HQ2.out⟩

end Go.Proofs.Qxb6614822aFmt
