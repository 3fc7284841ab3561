import Derived.Test.Qxb6614822aFmtSrt2
namespace Go.Proofs.Qxb6614822aFmt
open Go.RowKit Go.Sort

theorem sift_z {w0 : World} {cs : Array Value} {blk off N : Nat} (cap : Nat) {lo' hi' : Int} (lo hi first : Nat) {d : Array Int} {w : World} (e1 : lo' = lo) (e2 : hi' = hi) (hR : R w0 cs blk off N w d) (hb : first + hi ≤ N) (hlo : lo ≤ hi) (hN : N ≤ 1000000) :
    Calls Tryf.prog 98 #[.slice (some ⟨blk, off, none⟩) N cap, .int .i64 lo', .int .i64 hi', .int .i64 first] w fun e w' =>
      e = .returned (.tuple #[]) ∧ R w0 cs blk off N w' (siftDown ltInt hi first lo d) := by
  subst e1 e2; exact sift_any w0 cs blk off N cap lo hi first d w hR hb hlo hN

set_option maxRecDepth 20000 in
set_option maxHeartbeats 2000000 in
theorem heap_any (w0 : World) (cs : Array Value) (blk off N cap a b : Nat) (d : Array Int) (w : World) (hR : R w0 cs blk off N w d) (hab : a < b) (hb : b ≤ N) (hN : N ≤ 1000000) :
    Calls Tryf.prog 79 #[.slice (some ⟨blk, off, none⟩) N cap, .int .i64 a, .int .i64 b] w fun e w' =>
      e = .returned (.tuple #[]) ∧ ∃ d', R w0 cs blk off N w' d' ∧ PermIn a b d d' ∧ SortedIn ltInt a b d' := by
  have hH := heapSort_holds swo_ltInt d a b (by omega) (by rw [hR.size]; exact hb)
  have HH : Hid (PermIn a b d (heapSort ltInt d a b) ∧ SortedIn ltInt a b (heapSort ltInt d a b)) := hH
  clear hH
  go_enter Tryf.func79, Tryf.ntmps79
  go_wp2
  go_loopg [9] ((b - a - 1) / 2 + 1) (fun t vi wr => ∃ (k : Nat) (z : Int) (dk : Array Int), vi = .int .i64 z ∧ z = (k : Int) - 1 ∧ k = t ∧ k ≤ (b - a - 1) / 2 + 1 ∧ R w0 cs blk off N wr dk ∧ heapBuild ltInt (b - a) a k dk = heapBuild ltInt (b - a) a ((b - a - 1) / 2 + 1) d)
  case atStart => exact ⟨(b - a - 1) / 2 + 1, _, d, rfl, by omega, rfl, by omega, hR, rfl⟩
  case round =>
    obtain ⟨k, z, dk, rfl, hz, rfl, h2, hRk, hE⟩ := hrel
    clear hR
    by_cases hk : k = 0
    · subst hk
      obtain rfl : z = -1 := by omega
      clear hz
      unfold heapBuild at hE
      have HR : Hid (R w0 cs blk off N wr dk) := hRk
      have HE : Hid (dk = heapBuild ltInt (b - a) a ((b - a - 1) / 2 + 1) d) := hE
      clear hRk hE
      go_wp2
      go_loopg [10] (b - a) (fun t vi wr => ∃ (k : Nat) (z : Int) (dj : Array Int), vi = .int .i64 z ∧ z = (k : Int) - 1 ∧ k = t ∧ k ≤ b - a ∧ R w0 cs blk off N wr dj ∧ heapPop ltInt a k dj = heapSort ltInt d a b)
      case atStart => exact ⟨b - a, _, dk, rfl, by omega, rfl, by omega, HR.out, by unfold heapSort; rw [← HE.out]⟩
      case round =>
        clear HR HE
        obtain ⟨k, z, dj, rfl, hz, rfl, h2, hRk, hE⟩ := hrel
        by_cases hk : k = 0
        · subst hk
          obtain rfl : z = -1 := by omega
          clear hz
          unfold heapPop at hE
          subst hE
          go_wp2
          go_end0
          exact ⟨rfl, _, hRk, HH.out⟩
        · obtain ⟨k, rfl⟩ : ∃ m, k = m + 1 := ⟨k - 1, by omega⟩
          obtain rfl : z = k := by omega
          clear hz
          have hcw := hRk.cell
          have hfw := hRk.frozen
          obtain ⟨G, hG⟩ : ∃ G : Nat → Int, ∀ t, G t = dj[t]! := ⟨fun t => dj[t]!, fun _ => rfl⟩
          simp only [← hG] at hcw
          unfold heapPop at hE
          have HR : Hid (R w0 cs blk off N wr dj) := hRk
          have HG : Hid (∀ t, G t = dj[t]!) := hG
          have HE : Hid (heapPop ltInt a k (siftDown ltInt k a 0 (swp dj a (a + k))) = heapSort ltInt d a b) := hE
          clear hRk hG hE
          by_cases hk0 : k = 0
          · subst hk0
            have HR2 : Hid (R w0 cs blk off N ((wr.setCell ⟨blk, off + a, none⟩ (.int .u64 (G a))).setCell ⟨blk, off + a, none⟩ (.int .u64 (G a))).drew (swp dj a (a + 0))) := by
              rw [HG.out]; exact (HR.out.swap (i := a) (j := a) (by omega) (by omega)).drew 1
            go_wp2
            go_region
            go_wp2_with fail
            refine (sift_z cap 0 0 a rfl (by omega) HR2.out (by omega) (by omega) hN).mono ?_
            rintro e w2 ⟨rfl, hR2⟩
            have HR3 : Hid (R w0 cs blk off N w2 (siftDown ltInt 0 a 0 (swp dj a (a + 0)))) := hR2
            clear HR2 hR2
            go_wp2
            go_roundg 0
            case measure => omega
            case rel => exact ⟨0, _, _, rfl, by omega, rfl, by omega, HR3.out, HE.out⟩
          · have hne : 0 < k := by omega
            have HR2 : Hid (R w0 cs blk off N ((wr.setCell ⟨blk, off + a, none⟩ (.int .u64 (G (a + k)))).setCell ⟨blk, off + (a + k), none⟩ (.int .u64 (G a))).drew (swp dj a (a + k))) := by
              rw [HG.out, HG.out]; exact (HR.out.swap (i := a) (j := a + k) (by omega) (by omega)).drew 1
            go_wp2
            go_region
            go_wp2_with fail
            refine (sift_z cap 0 k a rfl (by omega) HR2.out (by omega) (by omega) hN).mono ?_
            rintro e w2 ⟨rfl, hR2⟩
            have HR3 : Hid (R w0 cs blk off N w2 (siftDown ltInt k a 0 (swp dj a (a + k)))) := hR2
            clear HR2 hR2
            go_wp2
            go_roundg k
            case measure => omega
            case rel => exact ⟨k, _, _, rfl, by omega, rfl, by omega, HR3.out, HE.out⟩
    · obtain ⟨k, rfl⟩ : ∃ m, k = m + 1 := ⟨k - 1, by omega⟩
      obtain rfl : z = k := by omega
      clear hz
      have HR : Hid (R w0 cs blk off N wr dk) := hRk
      unfold heapBuild at hE
      have HE : Hid (heapBuild ltInt (b - a) a k (siftDown ltInt (b - a) a k dk) = heapBuild ltInt (b - a) a ((b - a - 1) / 2 + 1) d) := hE
      clear hRk hE
      go_wp2_with fail
      refine (sift_z cap k (b - a) a rfl (by omega) HR.out (by omega) (by omega) hN).mono ?_
      rintro e w2 ⟨rfl, hR2⟩
      have HR3 : Hid (R w0 cs blk off N w2 (siftDown ltInt (b - a) a k dk)) := hR2
      clear HR hR2
      go_wp2
      go_roundg k
      case measure => omega
      case rel => exact ⟨k, _, _, rfl, by omega, rfl, by omega, HR3.out, HE.out⟩
end Go.Proofs.Qxb6614822aFmt
