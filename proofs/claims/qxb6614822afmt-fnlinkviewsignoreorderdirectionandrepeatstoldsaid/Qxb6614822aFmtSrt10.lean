import Derived.Test.Qxb6614822aFmtSrt9
namespace Go.Proofs.Qxb6614822aFmt
open Go.RowKit Go.Sort

/-- pdqsortOrdered's contract on parts no longer than n -/
def PdqAt (w0 : World) (cs : Array Value) (blk off N cap n : Nat) : Prop :=
  ∀ (a b lim : Nat) (d : Array Int) (w : World), b - a < n → R w0 cs blk off N w d → a ≤ b → b ≤ N → Go.Sort.Below ltInt a b d → lim ≤ 1000 →
    Calls Tryf.prog 63 #[.slice (some ⟨blk, off, none⟩) N cap, .int .i64 a, .int .i64 b, .int .i64 lim] w fun e w' =>
      e = .returned (.tuple #[]) ∧ ∃ d', R w0 cs blk off N w' d' ∧ PermIn a b d d' ∧ SortedIn ltInt a b d'

theorem PdqAt.z {w0 : World} {cs : Array Value} {blk off N cap n : Nat} (h : PdqAt w0 cs blk off N cap n) (a b lim : Nat) {a' b' : Int} (ea : a' = a) (eb : b' = b) {d : Array Int} {w : World} (h1 : b - a < n) (hR : R w0 cs blk off N w d) (h2 : a ≤ b) (h3 : b ≤ N) (h4 : Go.Sort.Below ltInt a b d) (h5 : lim ≤ 1000) :
    Calls Tryf.prog 63 #[.slice (some ⟨blk, off, none⟩) N cap, .int .i64 a', .int .i64 b', .int .i64 lim] w fun e w' =>
      e = .returned (.tuple #[]) ∧ ∃ d', R w0 cs blk off N w' d' ∧ PermIn a b d d' ∧ SortedIn ltInt a b d' := by
  subst ea eb; exact h a b lim d w h1 hR h2 h3 h4 h5

set_option maxRecDepth 20000 in
set_option maxHeartbeats 8000000 in
theorem pdq_step (w0 : World) (cs : Array Value) (blk off N cap n : Nat) (hbl : blk < w0.heap.size) (hN : N ≤ 1000000) (IH : PdqAt w0 cs blk off N cap n) : PdqAt w0 cs blk off N cap (n + 1) := by
  intro a b lim d w hn hR hab hb hBel hlim
  go_enter Tryf.func63, Tryf.ntmps63
  go_wp2_with fail
  go_loopg [1, 2, 3, 8, 9] (b - a) (fun t v1 v2 v3 v8 v9 wr => ∃ (a1 b1 l1 : Nat) (wb wp : Bool) (dk : Array Int), v1 = .int .i64 a1 ∧ v2 = .int .i64 b1 ∧ v3 = .int .i64 l1 ∧ v8 = .bool wb ∧ v9 = .bool wp ∧ a ≤ a1 ∧ a1 ≤ b1 ∧ b1 ≤ b ∧ b1 - a1 ≤ t ∧ l1 ≤ 1000 ∧
    R w0 cs blk off N wr dk ∧ Go.Sort.Below ltInt a1 b1 dk ∧ Left a b a1 b1 d dk)
  case atStart => exact ⟨a, b, lim, true, true, d, rfl, rfl, rfl, rfl, rfl, by omega, by omega, by omega, by omega, hlim, hR, hBel, fun T h1 h2 => ⟨h1, h2⟩⟩
  case round =>
    clear hR hBel
    obtain ⟨a1, b1, l1, wb, wp, dk, rfl, rfl, rfl, rfl, rfl, q1, q2, q3, q4, q5, hR, hBel, hLeft⟩ := hrel
    obtain ⟨g1, hg1⟩ : ∃ t, t = gk := ⟨gk, rfl⟩
    have HGK : Hid (b1 - a1 ≤ g1) := by rw [hg1]; exact q4
    clear q4
    have hsk := hR.size
    have HB : Hid (Go.Sort.Below ltInt a1 b1 dk) := hBel
    have HL : Hid (Left a b a1 b1 d dk) := hLeft
    clear hBel hLeft
    by_cases h12 : b1 - a1 ≤ 12
    · go_wp2_with fail
      refine (ins_any w0 cs blk off N cap a1 b1 dk _ hR (by omega) (by omega) hN).mono ?_
      rintro e w2 ⟨rfl, d2, hR2, hP2, hS2⟩
      go_wp2_with fail
      (try simp only [Exit.inBlock, Exit.then]); refine bodyPost_ret (results_none rfl _ _ _) rfl ?_
      exact ⟨rfl, d2, hR2, HL.out d2 hP2 hS2⟩
    · by_cases hl0 : l1 = 0
      · subst hl0
        go_wp2_with fail
        refine (heap_any w0 cs blk off N cap a1 b1 dk _ hR (by omega) (by omega) hN).mono ?_
        rintro e w2 ⟨rfl, d2, hR2, hP2, hS2⟩
        go_wp2_with fail
        (try simp only [Exit.inBlock, Exit.then]); refine bodyPost_ret (results_none rfl _ _ _) rfl ?_
        exact ⟨rfl, d2, hR2, HL.out d2 hP2 hS2⟩
      · have hl0b : ((l1 : Int) == 0) = false := by simp; omega
        go_upto_if 35 with fail
        go_cut [3] (fun v3 wx => ∃ (l2 : Nat) (d2 : Array Int), v3 = .int .i64 l2 ∧ l2 ≤ 1000 ∧ R w0 cs blk off N wx d2 ∧ PermIn a1 b1 dk d2)
        case first =>
          cases wb with
          | true =>
            go_wp2_with fail
            go_meet
            case rel => exact ⟨l1, dk, rfl, q5, hR, permIn_refl _ _ _⟩
          | false =>
            go_wp2_with fail
            refine (brk_any w0 cs blk off N cap a1 b1 dk _ hR hbl (by omega) (by omega) hN).mono ?_
            rintro e w2 ⟨rfl, d2, hR2, hP2⟩
            clear hR
            go_wp2_with fail
            go_meet
            case rel => exact ⟨l1 - 1, d2, by congr 1; omega, by omega, hR2, hP2⟩
        case rest =>
          clear hR
          obtain ⟨l2, d2, rfl, q6, hR, hP⟩ := hcut
          have HB2 : Hid (Go.Sort.Below ltInt a1 b1 d2) := Below.perm HB.out (by omega) hP
          have HL2 : Hid (Left a b a1 b1 d d2) := HL.out.perm hP
          have hs2 := hR.size
          clear HB HL hP hsk
          go_wp2_with fail
          refine (pivot_any w0 cs blk off N cap a1 b1 d2 _ hR hbl (by omega) (by omega) hN).mono ?_
          rintro e w2 ⟨pv, hint, rfl, p1, p2, hR2⟩
          clear hR
          go_upto_if 50 with fail
          go_cut [11, 12] (fun v11 v12 wx => ∃ (p : Nat) (h : Int) (d3 : Array Int), v11 = .int .i64 p ∧ v12 = .int .i64 h ∧ a1 ≤ p ∧ p < b1 ∧ R w0 cs blk off N wx d3 ∧ PermIn a1 b1 d2 d3)
          case first =>
            by_cases h2 : hint = 2
            · subst h2
              go_wp2_with fail
              refine (rev_any w0 cs blk off N cap a1 b1 d2 _ hR2 (by omega) (by omega) hN).mono ?_
              rintro e w3 ⟨rfl, d3, hR3, hP3⟩
              clear hR2
              go_wp2_with fail
              go_meet
              case rel => exact ⟨(b1 - 1) - (pv - a1), 1, d3, by congr 1; omega, rfl, by omega, by omega, hR3, hP3⟩
            · have h2b : (hint == 2) = false := by simpa using h2
              go_wp2_with fail
              go_meet
              case rel => exact ⟨pv, hint, d2, rfl, rfl, p1, p2, hR2, permIn_refl _ _ _⟩
          case rest =>
            clear hR2 p1 p2
            obtain ⟨p, h, d3, rfl, rfl, p1, p2, hR, hP⟩ := hcut
            have HB3 : Hid (Go.Sort.Below ltInt a1 b1 d3) := Below.perm HB2.out (by omega) hP
            have HL3 : Hid (Left a b a1 b1 d d3) := HL2.out.perm hP
            have hs3 := hR.size
            clear HB2 HL2 hP hs2
            go_upto_region 15 with fail
            go_cut [68] (fun v wx => ∃ r : Bool, v = .bool r ∧ wx = wc)
            case first =>
              by_cases h1 : h = 1
              · subst h1
                cases wb <;> cases wp
                all_goals
                  go_wp2_with fail
                  go_meet
                  case rel => exact ⟨_, rfl, rfl⟩
              · have h1b : (h == 1) = false := by simpa using h1
                cases wb <;> cases wp
                all_goals
                  go_wp2_with fail
                  go_meet
                  case rel => exact ⟨_, rfl, rfl⟩
            case rest =>
              obtain ⟨r, rfl, rfl⟩ := hcut
              go_upto_if 68 with fail
              go_cut [] (fun wx => ∃ d4 : Array Int, R w0 cs blk off N wx d4 ∧ PermIn a1 b1 d3 d4)
              case first =>
                cases r with
                | false =>
                  go_wp2_with fail
                  go_meet
                  case rel => exact ⟨d3, hR, permIn_refl _ _ _⟩
                | true =>
                  go_wp2_with fail
                  refine (pins_any w0 cs blk off N cap a1 b1 d3 _ hR (by omega) (by omega) hN HB3.out).mono ?_
                  rintro e w4 ⟨r, d4, rfl, hR4, hP4, hS4⟩
                  clear hR
                  cases r with
                  | true =>
                    go_wp2_with fail
                    (try simp only [Exit.inBlock, Exit.then]); refine bodyPost_ret (results_none rfl _ _ _) rfl ?_
                    exact ⟨rfl, d4, hR4, HL3.out d4 hP4 (hS4 (by trivial))⟩
                  | false =>
                    go_wp2_with fail
                    go_meet
                    case rel => exact ⟨d4, hR4, hP4⟩
              case rest =>
                clear hR
                obtain ⟨d4, hR, hP⟩ := hcut
                have HB4 : Hid (Go.Sort.Below ltInt a1 b1 d4) := Below.perm HB3.out (by omega) hP
                have HL4 : Hid (Left a b a1 b1 d d4) := HL3.out.perm hP
                have hs4 := hR.size
                clear HB3 HL3 hP hs3
                go_upto_region 17 with fail
                go_cut [87] (fun v wx => ∃ r : Bool, v = .bool r ∧ R w0 cs blk off N wx d4 ∧ (r = true → 0 < a1 ∧ ltInt d4[a1 - 1]! d4[p]! = false))
                case first =>
                  have hcw := hR.cell
                  obtain ⟨G, hG⟩ : ∃ G : Nat → Int, ∀ t, G t = d4[t]! := ⟨fun t => d4[t]!, fun _ => rfl⟩
                  simp only [← hG] at hcw
                  have HR : Hid (R w0 cs blk off N _ d4) := hR
                  have HG : Hid (∀ t, G t = d4[t]!) := hG
                  clear hR hG
                  by_cases ha0 : 0 < a1
                  · have hd : decide (0 < (a1 : Int)) = true := decide_eq_true (by omega)
                    go_big_quiet (first | (go_at_call 76; refine Calls.quiet_of_same (less_any _ _ _)))
                    go_wp2_with fail
                    go_meet
                    case rel => exact ⟨_, rfl, HR.out.drew _, fun h9 => ⟨ha0, by rw [← HG.out, ← HG.out]; simpa using h9⟩⟩
                  · have hd : decide (0 < (a1 : Int)) = false := decide_eq_false (by omega)
                    go_big_quiet (first | (go_at_call 76; refine Calls.quiet_of_same (less_any _ _ _)))
                    go_wp2_with fail
                    go_meet
                    case rel => exact ⟨_, rfl, HR.out.drew _, fun h9 => by cases h9⟩
                case rest =>
                  clear hR
                  obtain ⟨r, rfl, hR, hr⟩ := hcut
                  cases r with
                  | true =>
                    obtain ⟨ha0, hl⟩ := hr rfl
                    have HLT : Hid (ltInt d4[a1 - 1]! d4[p]! = false) := hl
                    clear hr hl
                    go_wp2_with fail
                    refine (peq_any w0 cs blk off N cap a1 b1 p d4 _ hR p1 p2 (by omega) hN).mono ?_
                    rintro e w5 ⟨mid, d5, rfl, m1, m2, hR5, hP5, hPE⟩
                    obtain ⟨hB5, hL5⟩ := glue_eq ha0 (by omega) HB4.out HLT.out m1 m2 hP5 hPE
                    have HL5 : Hid (Left a b mid b1 d d5) := fun T t1 t2 => by
                      obtain ⟨t3, t4⟩ := hL5 T t1 t2
                      exact HL4.out T t3 t4
                    clear hR hPE hP5 hL5
                    go_wp2_with fail
                    go_roundg (g1 - 1)
                    case measure => have := HGK.out; omega
                    case rel => exact ⟨mid, b1, l2, wb, wp, d5, rfl, rfl, rfl, rfl, rfl, by omega, by omega, by omega, by have := HGK.out; omega, q6, hR5, hB5, HL5.out⟩
                  | false =>
                    clear hr
                    go_wp2_with fail
                    refine (part_any w0 cs blk off N cap a1 b1 p d4 _ hR p1 p2 (by omega) hN).mono ?_
                    rintro e w5 ⟨mid, d5, al, rfl, m1, m2, hR5, hP5, hPF⟩
                    obtain ⟨hB5, hB6, hL5, hL6⟩ := glue_part (by omega) HB4.out m1 m2 hP5 hPF
                    have HL5 : Hid (∀ L, PermIn a1 mid d5 L → SortedIn ltInt a1 mid L → Go.Sort.Below ltInt (mid + 1) b1 L ∧ Left a b (mid + 1) b1 d L) := fun L t1 t2 => by
                      obtain ⟨t3, t4⟩ := hL5 L t1 t2
                      exact ⟨t3, fun T t5 t6 => by obtain ⟨t7, t8⟩ := t4 T t5 t6; exact HL4.out T t7 t8⟩
                    have HL6 : Hid (∀ L, PermIn (mid + 1) b1 d5 L → SortedIn ltInt (mid + 1) b1 L → Go.Sort.Below ltInt a1 mid L ∧ Left a b a1 mid d L) := fun L t1 t2 => by
                      obtain ⟨t3, t4⟩ := hL6 L t1 t2
                      exact ⟨t3, fun T t5 t6 => by obtain ⟨t7, t8⟩ := t4 T t5 t6; exact HL4.out T t7 t8⟩
                    have HB5 : Hid (Go.Sort.Below ltInt a1 mid d5) := hB5
                    have HB6 : Hid (Go.Sort.Below ltInt (mid + 1) b1 d5) := hB6
                    have hs5 := hR5.size
                    clear hR hPF hP5 hL5 hL6 hB5 hB6 HB4 HL4
                    by_cases hlr : mid - a1 < b1 - mid
                    · go_wp2_with fail
                      refine (IH.z a1 mid l2 rfl rfl (by omega) hR5 (by omega) (by omega) HB5.out q6).mono ?_
                      rintro e w6 ⟨rfl, d6, hR6, hP6, hS6⟩
                      obtain ⟨hB7, hL7⟩ := HL5.out d6 hP6 hS6
                      have HL7 : Hid (Left a b (mid + 1) b1 d d6) := hL7
                      clear hR5 hP6 hS6 hL7 HL5 HL6
                      go_wp2_with fail
                      go_roundg (g1 - 1)
                      case measure => have := HGK.out; omega
                      case rel => exact ⟨mid + 1, b1, l2, _, al, d6, by go_num, rfl, rfl, rfl, rfl, by omega, by omega, by omega, by have := HGK.out; omega, q6, hR6, hB7, HL7.out⟩
                    · go_wp2_with fail
                      refine (IH.z (mid + 1) b1 l2 (by omega) rfl (by omega) hR5 (by omega) (by omega) HB6.out q6).mono ?_
                      rintro e w6 ⟨rfl, d6, hR6, hP6, hS6⟩
                      obtain ⟨hB7, hL7⟩ := HL6.out d6 hP6 hS6
                      have HL7 : Hid (Left a b a1 mid d d6) := hL7
                      clear hR5 hP6 hS6 hL7 HL5 HL6
                      go_wp2_with fail
                      go_roundg (g1 - 1)
                      case measure => have := HGK.out; omega
                      case rel => exact ⟨a1, mid, l2, _, al, d6, rfl, rfl, rfl, rfl, rfl, by omega, by omega, by omega, by have := HGK.out; omega, q6, hR6, hB7, HL7.out⟩

theorem pdq_any (w0 : World) (cs : Array Value) (blk off N cap : Nat) (hbl : blk < w0.heap.size) (hN : N ≤ 1000000) : ∀ n, PdqAt w0 cs blk off N cap n
  | 0 => fun _ _ _ _ _ h => absurd h (Nat.not_lt_zero _)
  | n + 1 => pdq_step w0 cs blk off N cap n hbl hN (pdq_any w0 cs blk off N cap hbl hN n)
end Go.Proofs.Qxb6614822aFmt
