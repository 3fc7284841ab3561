import Derived.Test.Qxb6614822aFmtSrt6
namespace Go.Proofs.Qxb6614822aFmt
open Go.RowKit Go.Sort

/-- the counter of swaps: a block of its own, made behind w0 -/
def Cnt (w0 w : World) (sb : Nat) (c : Int) : Prop := w0.heap.size ≤ sb ∧ Blk w sb #[.int .i64 c] 3 ∧ 0 ≤ c

theorem Cnt.set {w0 w : World} {sb : Nat} {c : Int} (h : Cnt w0 w sb c) (x : Int) (hx : 0 ≤ x) : Cnt w0 (w.setCell ⟨sb, 0, none⟩ (.int .i64 x)) sb x := ⟨h.1, by have := h.2.1.set 0 (.int .i64 x); simpa using this, hx⟩
theorem Cnt.drew {w0 w : World} {sb : Nat} {c : Int} (h : Cnt w0 w sb c) (q : Nat) : Cnt w0 (w.drewN q) sb c := ⟨h.1, h.2.1, h.2.2⟩

set_option maxRecDepth 20000 in
set_option maxHeartbeats 1000000 in
theorem order2_any (w0 : World) (cs : Array Value) (blk off N cap a b sb : Nat) (c : Int) (d : Array Int) (w : World) (hR : R w0 cs blk off N w d) (hC : Cnt w0 w sb c) (hc : c ≤ 100) (hbl : blk < w0.heap.size) (ha : a < N) (hb : b < N) (_hN : N ≤ 1000000) :
    Calls Tryf.prog 108 #[.slice (some ⟨blk, off, none⟩) N cap, .int .i64 a, .int .i64 b, .pointer (some ⟨sb, 0, none⟩)] w fun e w' =>
      ∃ (x y : Nat) (c' : Int), e = .returned (.tuple #[.int .i64 x, .int .i64 y]) ∧ (x = a ∧ y = b ∨ x = b ∧ y = a) ∧ R w0 cs blk off N w' d ∧ Cnt w0 w' sb c' ∧ c' ≤ c + 1 := by
  have hcw := hR.cell
  obtain ⟨G, hG⟩ : ∃ G : Nat → Int, ∀ t, G t = d[t]! := ⟨fun t => d[t]!, fun _ => rfl⟩
  simp only [← hG] at hcw
  have hsc : w.cell? ⟨sb, 0, none⟩ = some (.int .i64 c) := hC.2.1.cell 0
  have hsf : w.frozen? ⟨sb, 0, none⟩ = false := hC.2.1.frozen 0
  have hc0 := hC.2.2
  have HR : Hid (R w0 cs blk off N w d) := hR
  have HC : Hid (Cnt w0 w sb c) := hC
  clear hR hC hG
  go_enter Tryf.func108, Tryf.ntmps108
  go_wp2_with fail
  go_big_quiet (first | (go_at_call 76; refine Calls.quiet_of_same (less_any _ _ _)))
  go_wp2_with fail
  · go_ret2
    refine ⟨b, a, c + 1, rfl, .inr ⟨rfl, rfl⟩, ?_, (HC.out.drew _).set _ (by omega), by omega⟩
    exact (HR.out.drew _).grows (grown_set _ _ _) (fun j e => by cases e; exact HC.out.1) hbl
  · go_ret2
    exact ⟨a, b, c, rfl, .inl ⟨rfl, rfl⟩, HR.out.drew _, HC.out.drew _, by omega⟩

set_option maxRecDepth 20000 in
set_option maxHeartbeats 1000000 in
theorem median_any (w0 : World) (cs : Array Value) (blk off N cap a b m sb : Nat) (c : Int) (d : Array Int) (w : World) (hR : R w0 cs blk off N w d) (hC : Cnt w0 w sb c) (hc : c ≤ 50) (hbl : blk < w0.heap.size) (ha : a < N) (hb : b < N) (hm : m < N) (hN : N ≤ 1000000) :
    Calls Tryf.prog 102 #[.slice (some ⟨blk, off, none⟩) N cap, .int .i64 a, .int .i64 b, .int .i64 m, .pointer (some ⟨sb, 0, none⟩)] w fun e w' =>
      ∃ (x : Nat) (c' : Int), e = .returned (.int .i64 x) ∧ (x = a ∨ x = b ∨ x = m) ∧ R w0 cs blk off N w' d ∧ Cnt w0 w' sb c' ∧ c' ≤ c + 3 := by
  go_enter Tryf.func102, Tryf.ntmps102
  go_wp2_with fail
  refine (order2_any w0 cs blk off N cap a b sb c d _ hR hC (by omega) hbl ha hb hN).mono ?_
  rintro e w1 ⟨x1, y1, c1, rfl, hxy1, hR1, hC1, hc1⟩
  clear hR hC
  go_wp2_with fail
  refine (order2_any w0 cs blk off N cap y1 m sb c1 d _ hR1 hC1 (by omega) hbl (by omega) hm hN).mono ?_
  rintro e w2 ⟨x2, y2, c2, rfl, hxy2, hR2, hC2, hc2⟩
  clear hR1 hC1
  go_wp2_with fail
  refine (order2_any w0 cs blk off N cap x1 x2 sb c2 d _ hR2 hC2 (by omega) hbl (by omega) (by omega) hN).mono ?_
  rintro e w3 ⟨x3, y3, c3, rfl, hxy3, hR3, hC3, hc3⟩
  clear hR2 hC2
  go_wp2_with fail
  go_ret
  exact ⟨y3, c3, rfl, by omega, hR3, hC3, by omega⟩

theorem median_z {w0 : World} {cs : Array Value} {blk off N : Nat} (cap a b m sb : Nat) {a' b' m' : Int} (ea : a' = a) (eb : b' = b) (em : m' = m) {c : Int} {d : Array Int} {w : World} (hR : R w0 cs blk off N w d) (hC : Cnt w0 w sb c) (hc : c ≤ 50) (hbl : blk < w0.heap.size) (ha : a < N) (hb : b < N) (hm : m < N) (hN : N ≤ 1000000) :
    Calls Tryf.prog 102 #[.slice (some ⟨blk, off, none⟩) N cap, .int .i64 a', .int .i64 b', .int .i64 m', .pointer (some ⟨sb, 0, none⟩)] w fun e w' =>
      ∃ (x : Nat) (c' : Int), e = .returned (.int .i64 x) ∧ (x = a ∨ x = b ∨ x = m) ∧ R w0 cs blk off N w' d ∧ Cnt w0 w' sb c' ∧ c' ≤ c + 3 := by
  subst ea eb em
  exact median_any w0 cs blk off N cap a b m sb c d w hR hC hc hbl ha hb hm hN

set_option maxRecDepth 20000 in
set_option maxHeartbeats 1000000 in
theorem medadj_any {w0 : World} {cs : Array Value} {blk off N : Nat} (cap a sb : Nat) {a' : Int} (ea : a' = a) {c : Int} {d : Array Int} {w : World} (hR : R w0 cs blk off N w d) (hC : Cnt w0 w sb c) (hc : c ≤ 50) (hbl : blk < w0.heap.size) (ha1 : 1 ≤ a) (ha : a + 1 < N) (hN : N ≤ 1000000) :
    Calls Tryf.prog 101 #[.slice (some ⟨blk, off, none⟩) N cap, .int .i64 a', .pointer (some ⟨sb, 0, none⟩)] w fun e w' =>
      ∃ (x : Nat) (c' : Int), e = .returned (.int .i64 x) ∧ (a - 1 ≤ x ∧ x ≤ a + 1) ∧ R w0 cs blk off N w' d ∧ Cnt w0 w' sb c' ∧ c' ≤ c + 3 := by
  subst ea
  go_enter Tryf.func101, Tryf.ntmps101
  go_wp2_with fail
  refine (median_z cap (a - 1) a (a + 1) sb (by omega) rfl (by omega) hR hC (by omega) hbl (by omega) (by omega) (by omega) hN).mono ?_
  rintro e w1 ⟨x1, c1, rfl, hxy1, hR1, hC1, hc1⟩
  go_wp2_with fail
  go_ret
  exact ⟨x1, c1, rfl, by omega, hR1, hC1, by omega⟩

theorem Cnt.new {w0 w : World} (h : w0.heap.size ≤ w.heap.size) : Cnt w0 (w.alloc (.cells #[.int .i64 0] 3)) w.heap.size 0 := ⟨h, heap_alloc_new w _, by omega⟩

set_option maxRecDepth 20000 in
set_option maxHeartbeats 2000000 in
theorem pivot_any (w0 : World) (cs : Array Value) (blk off N cap a b : Nat) (d : Array Int) (w : World) (hR : R w0 cs blk off N w d) (hbl : blk < w0.heap.size) (hab : a + 8 ≤ b) (hb : b ≤ N) (hN : N ≤ 1000000) :
    Calls Tryf.prog 81 #[.slice (some ⟨blk, off, none⟩) N cap, .int .i64 a, .int .i64 b] w fun e w' =>
      ∃ (x : Nat) (h : Int), e = .returned (.tuple #[.int .i64 x, .int .i64 h]) ∧ a ≤ x ∧ x < b ∧ R w0 cs blk off N w' d := by
  have hC0 : Cnt w0 (w.alloc (.cells #[.int .i64 0] 3)) w.heap.size 0 := Cnt.new hR.grown.size
  have hR0 : R w0 cs blk off N (w.alloc (.cells #[.int .i64 0] 3)) d := hR.grows (World.grownBy_alloc _ _ none) (by simp) hbl
  clear hR
  generalize hl : (b - a) / 4 = l
  have hl4 : 4 * l ≤ b - a := by omega
  have hl5 : 2 ≤ l := by omega
  go_enter Tryf.func81, Tryf.ntmps81
  go_upto_if 32 with fail
  go_cut [10, 11, 12] (fun v10 v11 v12 wx => ∃ (x : Nat) (c : Int), v11 = .int .i64 x ∧ a ≤ x ∧ x < b ∧ R w0 cs blk off N wx d ∧ Cnt w0 wx w.heap.size c)
  case first =>
    go_wp2_with fail
    · refine (medadj_any cap (a + l) w.heap.size (by omega) hR0 hC0 (by omega) hbl (by omega) (by omega) hN).mono ?_
      rintro e w1 ⟨x1, c1, rfl, hx1, hR1, hC1, hc1⟩
      clear hR0 hC0
      go_wp2_with fail
      refine (medadj_any cap (a + l * 2) w.heap.size (by omega) hR1 hC1 (by omega) hbl (by omega) (by omega) hN).mono ?_
      rintro e w2 ⟨x2, c2, rfl, hx2, hR2, hC2, hc2⟩
      clear hR1 hC1
      go_wp2_with fail
      refine (medadj_any cap (a + l * 3) w.heap.size (by omega) hR2 hC2 (by omega) hbl (by omega) (by omega) hN).mono ?_
      rintro e w3 ⟨x3, c3, rfl, hx3, hR3, hC3, hc3⟩
      clear hR2 hC2
      go_wp2_with fail
      refine (median_z cap x1 x2 x3 w.heap.size rfl rfl rfl hR3 hC3 (by omega) hbl (by omega) (by omega) (by omega) hN).mono ?_
      rintro e w4 ⟨x4, c4, rfl, hx4, hR4, hC4, hc4⟩
      clear hR3 hC3
      go_wp2_with fail
      go_meet
      case rel => exact ⟨x4, c4, rfl, by omega, by omega, hR4, hC4⟩
    · refine (median_z cap (a + l) (a + l * 2) (a + l * 3) w.heap.size (by omega) (by omega) (by omega) hR0 hC0 (by omega) hbl (by omega) (by omega) (by omega) hN).mono ?_
      rintro e w4 ⟨x4, c4, rfl, hx4, hR4, hC4, hc4⟩
      clear hR0 hC0
      go_wp2_with fail
      go_meet
      case rel => exact ⟨x4, c4, rfl, by omega, by omega, hR4, hC4⟩
  case rest =>
    clear hR0 hC0
    obtain ⟨x, c, rfl, hx1, hx2, hR, hC⟩ := hcut
    have hsc := hC.2.1.cell 0
    rw [show (#[Value.int .i64 c] : Array Value)[0]? = some (.int .i64 c) from rfl] at hsc
    clear hC
    go_wp2
    all_goals
      go_ret2
      exact ⟨x, _, rfl, hx1, hx2, hR⟩
end Go.Proofs.Qxb6614822aFmt
