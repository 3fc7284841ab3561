import Derived.Test.Qxb6614822aFmtSrt11
namespace Go.Proofs.Qxb6614822aFmt
open Go.RowKit Go.Sort

/-- dk's first k are, strictly ascending, what d's first m hold -/
structure Ded (d : Array Int) (m : Nat) (dk : Array Int) (k : Nat) : Prop where
  asc : ∀ i j, i < j → j < k → dk[i]! < dk[j]!
  sub : ∀ i, i < k → ∃ j, j < m ∧ dk[i]! = d[j]!
  all : ∀ j, j < m → ∃ i, i < k ∧ dk[i]! = d[j]!

theorem Ded.snoc {d dk : Array Int} {m k : Nat} (h : Ded d m dk k) (hk : 0 < k) (hlast : dk[k - 1]! < d[m]!) (hs : k < dk.size) : Ded d (m + 1) (dk.setIfInBounds k d[m]!) (k + 1) := by
  have e1 : ∀ i, i < k → (dk.setIfInBounds k d[m]!)[i]! = dk[i]! := fun i hi => by
    rw [getElem!_def, Array.getElem?_setIfInBounds, if_neg (by omega), ← getElem!_def]
  have e2 : (dk.setIfInBounds k d[m]!)[k]! = d[m]! := by
    rw [getElem!_def, Array.getElem?_setIfInBounds, if_pos rfl, if_pos hs]
  refine ⟨fun i j h1 h2 => ?_, fun i hi => ?_, fun j hj => ?_⟩
  · by_cases ej : j = k
    · subst ej
      rw [e2, e1 i h1]
      by_cases ei : i = j - 1
      · rw [ei]; exact hlast
      · have := h.asc i (j - 1) (by omega) (by omega)
        omega
    · rw [e1 i (by omega), e1 j (by omega)]; exact h.asc i j h1 (by omega)
  · by_cases ei : i = k
    · subst ei; exact ⟨m, by omega, e2⟩
    · obtain ⟨j, h1, h2⟩ := h.sub i (by omega)
      exact ⟨j, by omega, by rw [e1 i (by omega)]; exact h2⟩
  · by_cases ej : j = m
    · subst ej; exact ⟨k, by omega, e2⟩
    · obtain ⟨i, h1, h2⟩ := h.all j (by omega)
      exact ⟨i, by omega, by rw [e1 i h1]; exact h2⟩

theorem Ded.skip {d dk : Array Int} {m k : Nat} (h : Ded d m dk k) (hk : 0 < k) (he : dk[k - 1]! = d[m]!) : Ded d (m + 1) dk k := by
  refine ⟨h.asc, fun i hi => ?_, fun j hj => ?_⟩
  · obtain ⟨j, h1, h2⟩ := h.sub i hi; exact ⟨j, by omega, h2⟩
  · by_cases ej : j = m
    · subst ej; exact ⟨k - 1, by omega, he⟩
    · exact h.all j (by omega)

theorem Ded.self {d : Array Int} {k : Nat} (h : ∀ i j, i < j → j < k → d[i]! < d[j]!) : Ded d k d k := ⟨h, fun i hi => ⟨i, hi, rfl⟩, fun j hj => ⟨j, hj, rfl⟩⟩

theorem Ded.congr {d dk dk' : Array Int} {m k : Nat} (h : Ded d m dk k) (he : ∀ i, i < k → dk'[i]! = dk[i]!) : Ded d m dk' k := by
  refine ⟨fun i j h1 h2 => by rw [he i (by omega), he j h2]; exact h.asc i j h1 h2, fun i hi => ?_, fun j hj => ?_⟩
  · obtain ⟨j, h1, h2⟩ := h.sub i hi; exact ⟨j, h1, by rw [he i hi]; exact h2⟩
  · obtain ⟨i, h1, h2⟩ := h.all j hj; exact ⟨i, h1, by rw [he i h1]; exact h2⟩

theorem R.clear {w0 : World} {cs : Array Value} {blk off N : Nat} : ∀ (n k : Nat) (wr : World) (d : Array Int), R w0 cs blk off N wr d → k + n ≤ N →
    ∃ d', R w0 cs blk off N (wr.setCells blk (off + k) (List.replicate n (.int .u64 0))) d' ∧ ∀ i, i < k → d'[i]! = d[i]!
  | 0, _, wr, d, h, _ => ⟨d, h, fun _ _ => rfl⟩
  | n + 1, k, wr, d, h, hk => by
    obtain ⟨d', h1, h2⟩ := R.clear n (k + 1) _ _ (h.set (j := k) 0 (by omega)) (by omega)
    refine ⟨d', h1, fun i hi => ?_⟩
    rw [h2 i (by omega), getElem!_def, Array.getElem?_setIfInBounds, if_neg (by omega), ← getElem!_def]

theorem asc_of {d : Array Int} {k N : Nat} (hS : SortedIn ltInt 0 N d) (hk : k ≤ N) (h : ∀ i, 1 ≤ i → i < k → d[i]! ≠ d[i - 1]!) : ∀ i j, i < j → j < k → d[i]! < d[j]! := by
  intro i j h1 h2
  have e1 := ltI_f (hS (j - 1) j (by omega) (by omega) (by omega))
  have e2 := h j (by omega) h2
  by_cases e : i = j - 1
  · subst e; omega
  · have e3 := ltI_f (hS i (j - 1) (by omega) (by omega) (by omega))
    omega

set_option maxRecDepth 20000 in
set_option maxHeartbeats 2000000 in
theorem comp_any (w0 : World) (cs : Array Value) (blk off N cap : Nat) (d : Array Int) (w : World) (hR : R w0 cs blk off N w d) (hcap : N ≤ cap) (hc2 : cap ≤ 1000000) (hS : SortedIn ltInt 0 N d) :
    Calls Tryf.prog 50 #[.slice (some ⟨blk, off, none⟩) N cap] w fun e w' =>
      ∃ (K : Nat) (d' : Array Int), e = .returned (.slice (some ⟨blk, off, none⟩) K cap) ∧ K ≤ N ∧ R w0 cs blk off N w' d' ∧ Ded d N d' K := by
  have HS : Hid (SortedIn ltInt 0 N d) := hS
  clear hS
  by_cases hN2 : N < 2
  · go_enter Tryf.func50, Tryf.ntmps50
    go_wp2
    go_ret
    exact ⟨N, d, rfl, by omega, hR, Ded.self fun i j h1 h2 => by omega⟩
  · obtain ⟨G, hG⟩ : ∃ G : Nat → Int, ∀ t, G t = d[t]! := ⟨fun t => d[t]!, fun _ => rfl⟩
    have HG : Hid (∀ t, G t = d[t]!) := hG
    go_enter Tryf.func50, Tryf.ntmps50
    go_wp2
    go_loopg [3] N (fun t vi wr => ∃ k : Nat, vi = .int .i64 k ∧ 1 ≤ k ∧ k ≤ N ∧ N ≤ k + t ∧ R w0 cs blk off N wr d ∧ ∀ i, 1 ≤ i → i < k → d[i]! ≠ d[i - 1]!)
    case atStart => exact ⟨1, rfl, by omega, by omega, by omega, hR, fun i h1 h2 => by omega⟩
    case round =>
      clear hR
      obtain ⟨k, rfl, h1, h2, h3, hR, hne⟩ := hrel
      have HNE : Hid (∀ i, 1 ≤ i → i < k → d[i]! ≠ d[i - 1]!) := hne
      clear hne
      by_cases hlt : k < N
      · have hcw := hR.cell
        simp only [← hG] at hcw
        have HR : Hid (R w0 cs blk off N wr d) := hR
        clear hR hG
        go_wp2_with fail
        go_big_quiet (fail)
        by_cases heq : G k = G (k - 1)
        · have heqb : (G k == G (k - 1)) = true := by simpa using heq
          go_wp2_with fail
          have hlen := HR.out.size
          have HR1 : Hid (R w0 cs blk off N (wr.drewN nq) d) := HR.out.drew _
          have HD1 : Hid (Ded d (k + 1) d k) := (Ded.self (asc_of HS.out (by omega) HNE.out)).skip (by omega) (by rw [← HG.out, ← HG.out]; exact heq.symm)
          have HLA : Hid (d[k - 1]! = d[k]!) := by
            show d[k - 1]! = d[k]!
            rw [← HG.out, ← HG.out]; exact heq.symm
          clear HR hcw HNE heqb heq
          generalize wr.drewN nq = w1 at HR1 ⊢
          go_loopg [3, 5] N (fun t v3 v5 wr => ∃ (k' k2 : Nat) (dk : Array Int), v3 = .int .i64 k' ∧ v5 = .int .i64 k2 ∧ 1 ≤ k2 ∧ k + k2 ≤ N ∧ k ≤ k' ∧ k' + 1 ≤ k + k2 ∧ N ≤ k + k2 + t ∧ R w0 cs blk off N wr dk ∧ Ded d (k + k2) dk k' ∧ (∀ i, k' ≤ i → dk[i]! = d[i]!) ∧ dk[k' - 1]! = d[k + k2 - 1]!)
          case atStart => exact ⟨k, 1, d, rfl, rfl, by omega, by omega, by omega, by omega, by omega, HR1.out, HD1.out, fun _ _ => rfl, by rw [Nat.add_sub_cancel]; exact HLA.out⟩
          case round =>
            clear HR1 HD1 HLA
            obtain ⟨k', k2, dk, rfl, rfl, q1, q2, q3, q4, q5, hR, hD, hT, hLa⟩ := hrel
            have hlen2 := hR.size
            have c3 : wr.cell? ⟨blk, off + k', none⟩ = some (.int .u64 (G k')) := by rw [hR.cell k' (by omega), hT k' (by omega), HG.out]
            have f3 : wr.frozen? ⟨blk, off + k', none⟩ = false := hR.frozen k' (by omega)
            have hcw2 : ∀ t, t < N - k → k' ≤ k + t → wr.cell? ⟨blk, off + k + t, none⟩ = some (.int .u64 (G (k + t))) := fun t t1 t2 => by
              rw [Nat.add_assoc, hR.cell (k + t) (by omega), hT (k + t) (by omega), HG.out]
            have HR : Hid (R w0 cs blk off N wr dk) := hR
            have HD : Hid (Ded d (k + k2) dk k') := hD
            have HT : Hid (∀ i, k' ≤ i → dk[i]! = d[i]!) := hT
            have HLa : Hid (dk[k' - 1]! = d[k + k2 - 1]!) := hLa
            clear hR hD hT hLa
            by_cases hlt2 : k2 < N - k
            · go_wp2_with fail
              go_big_quiet (fail)
              go_wp2_with fail
              · have hb9 : (G (k + k2) != G (k + (k2 - 1))) = true := by assumption
                have hne9 : G (k + k2) ≠ G (k + (k2 - 1)) := by simpa using hb9
                go_roundg (gk - 1)
                case measure => omega
                case rel =>
                  have hle : G (k + (k2 - 1)) ≤ G (k + k2) := by
                    rw [HG.out, HG.out]; exact ltI_f (HS.out _ _ (by omega) (by omega) (by omega))
                  have e9 : k + k2 - 1 = k + (k2 - 1) := by omega
                  refine ⟨k' + 1, k2 + 1, dk.setIfInBounds k' d[k + k2]!, by go_num, by go_num, by omega, by omega, by omega, by omega, by omega, ?_, ?_, fun i hi => ?_, ?_⟩
                  · rw [HG.out]; exact (HR.out.drew _).set _ (by omega)
                  · refine HD.out.snoc (by omega) ?_ (by omega)
                    rw [HLa.out, e9, ← HG.out, ← HG.out]; omega
                  · rw [getElem!_def, Array.getElem?_setIfInBounds, if_neg (by omega), ← getElem!_def]; exact HT.out i (by omega)
                  · rw [Nat.add_sub_cancel, getElem!_def, Array.getElem?_setIfInBounds, if_pos rfl, if_pos (by omega)]
                    rfl
              · have hb9 : (G (k + k2) != G (k + (k2 - 1))) = false := by assumption
                have heq9 : G (k + k2) = G (k + (k2 - 1)) := by simpa using hb9
                go_roundg (gk - 1)
                case measure => omega
                case rel =>
                  have e9 : k + k2 - 1 = k + (k2 - 1) := by omega
                  have e8 : dk[k' - 1]! = d[k + k2]! := by rw [HLa.out, e9, ← HG.out, ← HG.out]; exact heq9.symm
                  exact ⟨k', k2 + 1, dk, rfl, by go_num, by omega, by omega, by omega, by omega, by omega, HR.out.drew _, HD.out.skip (by omega) e8, HT.out, e8⟩
            · obtain ⟨d9, hR9, he9⟩ := HR.out.clear (N - k') k' _ _ (by omega)
              have hcl := Lib.run_clear_slice (P := Tryf.prog) wr 22 23 0 (.int .u64 0) Tryf.underlying22 Tryf.zeroValue23 rfl rfl blk (off + k') (N - k') (cap - k') (by omega)
                (fun j hj => by rw [Nat.add_assoc, HR.out.cell (k' + j) (by omega)]; rfl) (fun j hj => by rw [Nat.add_assoc]; exact HR.out.frozen (k' + j) (by omega))
              have HR9 : Hid (R w0 cs blk off N (wr.setCells blk (off + k') (List.replicate (N - k') (.int .u64 0))) d9) := hR9
              have HD9 : Hid (Ded d N d9 k') := by
                have := HD.out.congr he9
                rw [show k + k2 = N by omega] at this
                exact this
              clear hR9 he9 HD HT HLa HR
              go_wp2_with fail
              go_ret
              exact ⟨k', d9, rfl, by omega, HR9.out, HD9.out⟩
        · have heqb : (G k == G (k - 1)) = false := by simpa using heq
          go_wp2_with fail
          go_roundg (gk - 1)
          case measure => omega
          case rel =>
            refine ⟨k + 1, by go_num, by omega, by omega, by omega, HR.out.drew _, fun i q1 q2 => ?_⟩
            by_cases e : i = k
            · subst e; rw [← HG.out, ← HG.out]; exact heq
            · exact HNE.out i q1 (by omega)
      · go_wp2
        go_ret
        obtain rfl : k = N := by omega
        exact ⟨k, d, rfl, by omega, hR, Ded.self (asc_of HS.out (by omega) HNE.out)⟩
end Go.Proofs.Qxb6614822aFmt
