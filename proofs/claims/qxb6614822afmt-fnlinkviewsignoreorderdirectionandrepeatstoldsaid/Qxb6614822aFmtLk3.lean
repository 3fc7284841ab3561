import Derived.Test.Qxb6614822aFmtLk2
namespace Go.Proofs.Qxb6614822aFmt
open Go.RowKit Go.Sort Pcg

theorem clone0 (bst c : Nat) (w : World) :
    Calls Tryf.prog 48 #[.slice (some ⟨bst, 0, none⟩) 0 c] w fun e w' => ∃ v cap, e = .returned (.slice v 0 cap) ∧ w.grownBy w' none := by
  refine (Tryf.slices_Clone_int bst 0 0 c [] w (Nat.zero_le _) (by simp) (fun j hj => absurd hj (Nat.not_lt_zero _))).mono ?_
  rintro e w' ⟨v', rfl, ⟨_, ho⟩, hne, hB⟩
  have hg : w.grownBy w' none := ⟨hB.os, hB.tape, hB.output, hB.size, fun k hk _ => hB.block k hk⟩
  rcases ho with ⟨rfl, h0⟩ | ⟨g, cap, cur, rfl, hg2, hcur, h1, h2, h3, h4⟩
  · exact ⟨_, _, rfl, hg⟩
  · exact ⟨_, _, rfl, hg⟩

set_option maxRecDepth 20000 in
set_option maxHeartbeats 4000000 in
/-- linkViews of no node -/
theorem lk_zero (aI aL : Option Addr) (cI cl bs bv r : Nat) (view : Int) (w : World) (hS : SAt w aI 0 view bs bv) :
    Calls Tryf.prog 37 #[.pointer (some ⟨bs, 0, none⟩), .agg #[.slice aI 0 cI, .int .i64 2, .slice aL 0 cl], .pointer (some ⟨r, 0, none⟩)] w fun e w' => e = .returned (.tuple #[]) ∧ w.grownBy w' none := by
  obtain ⟨cs, hb, h0, h5, h6, _⟩ := hS
  have q5 : w.cell? ⟨bs, 5, none⟩ = some (.slice aI 0 0) := (hb.cell 5).trans h5
  have q6 : w.cell? ⟨bs, 6, none⟩ = some (.slice (some ⟨bv, 0, none⟩) 0 0) := (hb.cell 6).trans h6
  clear hb h0 h5 h6
  go_enter Tryf.func37, Tryf.ntmps37
  go_upto_region 1 with fail
  have hbox : Blk (w.alloc (.cells #[.slice aI 0 cI, .int .i64 2, .slice aL 0 cl] 62)) w.heap.size #[.slice aI 0 cI, .int .i64 2, .slice aL 0 cl] 62 := heap_alloc_new w _
  have hg1 : w.grownBy (w.alloc (.cells #[.slice aI 0 cI, .int .i64 2, .slice aL 0 cl] 62)) none := World.grownBy_alloc _ _ _
  generalize hbpe : w.heap.size = bp at hbox ⊢
  generalize (w.alloc (.cells #[.slice aI 0 cI, .int .i64 2, .slice aL 0 cl] 62)) = w1 at hbox hg1 ⊢
  have p5 : w1.cell? ⟨bs, 5, none⟩ = some (.slice aI 0 0) := hg1.cell q5 (by simp)
  have p6 : w1.cell? ⟨bs, 6, none⟩ = some (.slice (some ⟨bv, 0, none⟩) 0 0) := hg1.cell q6 (by simp)
  have b2 : w1.cell? ⟨bp, 2, none⟩ = some (.slice aL 0 cl) := hbox.cell 2
  have HG1 : Hid (w.grownBy w1 none) := hg1
  have hbp : bp < w1.heap.size := hbox.lt
  have hbl : bs < w1.heap.size := World.block_lt_of_cell? _ _ p5
  clear hg1 hbox q5 q6
  have hmk : (Instr.makeSlice 38 (.int .i64 1) (.int .i64 1)).run Tryf.prog w1 = .ok (.slice (some ⟨w1.heap.size, 0, none⟩) 1 1) (w1.alloc (.cells (izA 1) 3)) := mk38 1 (by omega) w1
  go_upto_block 0 with fail
  have hg2 : w1.grownBy (w1.alloc (.cells (izA 1) 3)) none := World.grownBy_alloc _ _ _
  generalize w1.heap.size = bst at ⊢
  generalize (w1.alloc (.cells (izA 1) 3)) = w2 at hg2 ⊢
  have r5 := hg2.cell p5 (by simp)
  have r6 := hg2.cell p6 (by simp)
  have r2 := hg2.cell b2 (by simp)
  have HG2 : Hid (w1.grownBy w2 none) := hg2
  clear hmk hg2 p5 p6 b2
  go_wp2_with fail
  go_loopg [35] 0 (fun t v wr => v = .int .i64 0 ∧ wr = w2)
  case atStart => exact ⟨rfl, rfl⟩
  case round =>
    obtain ⟨rfl, hw⟩ := hrel
    subst hw
    go_wp2_with fail
    go_loopg [65] 0 (fun t v wx => v = .int .i64 0 ∧ wx = wr)
    case atStart => exact ⟨rfl, rfl⟩
    case round =>
      obtain ⟨rfl, hw⟩ := hrel
      subst hw
      have hmk2 : (Instr.makeSlice 22 (.int .i64 0) (.int .i64 0)).run Tryf.prog wr = .ok (.slice (some ⟨wr.heap.size, 0, none⟩) 0 0) (wr.alloc (.cells (uA (fun _ => 0) 0) 23)) := mk22 0 (by omega) wr
      have u5 := ca r5 (.cells (uA (fun _ => 0) 0) 23)
      have u6 := ca r6 (.cells (uA (fun _ => 0) 0) 23)
      have u2 := ca r2 (.cells (uA (fun _ => 0) 0) 23)
      have hg3 : wr.grownBy (wr.alloc (.cells (uA (fun _ => 0) 0) 23)) none := World.grownBy_alloc _ _ _
      go_upto_region 15 with fail
      generalize wr.heap.size = bgv at ⊢
      generalize (wr.alloc (.cells (uA (fun _ => 0) 0) 23)) = w3 at hg3 u5 u6 u2 ⊢
      have hcl := clone0 bst 1 w3
      go_wp2_with fail
      refine hcl.mono ?_
      rintro e w4 ⟨bnx, cnx, rfl, hg4⟩
      replace u6 := hg4.cell u6 (by simp)
      replace u2 := hg4.cell u2 (by simp)
      have HG4 : Hid (w.grownBy w4 none) := grown_trans (grown_trans (grown_trans HG1.out HG2.out) hg3) hg4
      clear hcl hg4 hg3 hmk2
      go_wp2_with fail
      go_loopg [96] 0 (fun t v wx => v = .int .i64 0 ∧ wx = w4)
      case atStart => exact ⟨rfl, rfl⟩
      case round =>
        obtain ⟨rfl, hw⟩ := hrel
        subst hw
        go_wp2_with fail
        go_loopg [142] 0 (fun t v wx => v = .int .i64 0 ∧ wx = wr)
        case atStart => exact ⟨rfl, rfl⟩
        case round =>
          obtain ⟨rfl, hw⟩ := hrel
          subst hw
          go_wp2_with fail
          go_end0
          exact ⟨rfl, HG4.out⟩
end Go.Proofs.Qxb6614822aFmt
