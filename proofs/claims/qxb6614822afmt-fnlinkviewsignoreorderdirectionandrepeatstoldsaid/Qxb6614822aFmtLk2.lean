import Derived.Test.Qxb6614822aFmtLk2b
namespace Go.Proofs.Qxb6614822aFmt
open Go.RowKit Go.Sort Pcg

set_option maxRecDepth 20000 in
set_option maxHeartbeats 4000000 in
theorem lk_any (W w : World) (b o n cI nl cl bs bv bt r g rm S0 c : Nat) (aL : Option Addr) (heal swap sel prop : Int) (xs : List Int) (ls : List (Nat × Nat))
    (hn0 : 0 < n) (hn : n ≤ 1000) (hnl : nl ≤ 10000) (hc2 : 2 ≤ c) (hcm : c ≤ 9223372036854775807) (hB0 : Base W w (some g) (some ⟨b, o, none⟩) aL n cI nl cl 2 c heal swap sel prop rm bs bv bt)
    (hV0 : VS w bv bt rm n (fun _ => [])) (hR0 : RngAt w r g S0) (hlr : r < W.heap.size) (hlg : g < W.heap.size)
    (hc : ∀ i, i < n → w.cell? ⟨b, o + i, none⟩ = some (.int .u64 (xs.getD i 0))) (hasc : ∀ i j, i < j → j < n → xs.getD i 0 < xs.getD j 0)
    (hL : LksIn w aL nl xs ls) (hLs : Lks ls nl n) (hrm : ∀ m, m ≤ c → m ≤ n - 1 → m ≤ rm) :
    Calls Tryf.prog 37 #[.pointer (some ⟨bs, 0, none⟩), .agg #[.slice (some ⟨b, o, none⟩) n cI, .int .i64 2, .slice aL nl cl], .pointer (some ⟨r, 0, none⟩)] w fun e w' =>
      e = .returned (.tuple #[]) ∧ ∃ S Es, Base W w' (some g) (some ⟨b, o, none⟩) aL n cI nl cl 2 c heal swap sel prop rm bs bv bt ∧ VS w' bv bt rm n (fun j => Es.getD j []) ∧ LRun ls nl c S0 n S Es := by
  obtain ⟨cs, hb, h0, h5, h6, _⟩ := hB0.sat
  have q0 : w.cell? ⟨bs, 0, none⟩ = some (.int .i64 c) := (hb.cell 0).trans h0
  have q5 : w.cell? ⟨bs, 5, none⟩ = some (.slice (some ⟨b, o, none⟩) n n) := (hb.cell 5).trans h5
  have q6 : w.cell? ⟨bs, 6, none⟩ = some (.slice (some ⟨bv, 0, none⟩) n n) := (hb.cell 6).trans h6
  have HC : Hid (∀ i, i < n → w.cell? ⟨b, o + i, none⟩ = some (.int .u64 (xs.getD i 0))) := hc
  have HA : Hid (∀ i j, i < j → j < n → xs.getD i 0 < xs.getD j 0) := hasc
  have HL : Hid (LksIn w aL nl xs ls) := hL
  have HLs : Hid (Lks ls nl n) := hLs
  have HB0 : Hid (Base W w (some g) (some ⟨b, o, none⟩) aL n cI nl cl 2 c heal swap sel prop rm bs bv bt) := hB0
  have HV0 : Hid (VS w bv bt rm n (fun _ => [])) := hV0
  have HR0 : Hid (RngAt w r g S0) := hR0
  have HRM : Hid (∀ m, m ≤ c → m ≤ n - 1 → m ≤ rm) := hrm
  have HLR : Hid (r < W.heap.size ∧ g < W.heap.size) := ⟨hlr, hlg⟩
  clear hc hasc hL hLs hb h0 h5 h6 hB0 hV0 hR0 hrm hlr hlg
  go_enter Tryf.func37, Tryf.ntmps37
  go_upto_region 1 with fail
  have hbox : Blk (w.alloc (.cells (stA (some ⟨b, o, none⟩) aL n cI nl cl 2) 62)) w.heap.size (stA (some ⟨b, o, none⟩) aL n cI nl cl 2) 62 := heap_alloc_new w _
  have hg1 : w.grownBy (w.alloc (.cells (stA (some ⟨b, o, none⟩) aL n cI nl cl 2) 62)) none := World.grownBy_alloc _ _ _
  unfold stA at hbox hg1
  have hbp : w.heap.size < (w.alloc (.cells #[.slice (some ⟨b, o, none⟩) n cI, .int .i64 2, .slice aL nl cl] 62)).heap.size := hbox.lt
  generalize hbpe : w.heap.size = bp at hbox hbp ⊢
  generalize (w.alloc (.cells #[.slice (some ⟨b, o, none⟩) n cI, .int .i64 2, .slice aL nl cl] 62)) = w1 at hbox hg1 hbp ⊢
  have p0 : w1.cell? ⟨bs, 0, none⟩ = some (.int .i64 c) := hg1.cell q0 (by simp)
  have p5 : w1.cell? ⟨bs, 5, none⟩ = some (.slice (some ⟨b, o, none⟩) n n) := hg1.cell q5 (by simp)
  have p6 : w1.cell? ⟨bs, 6, none⟩ = some (.slice (some ⟨bv, 0, none⟩) n n) := hg1.cell q6 (by simp)
  have b0 : w1.cell? ⟨bp, 0, none⟩ = some (.slice (some ⟨b, o, none⟩) n cI) := hbox.cell 0
  have b2 : w1.cell? ⟨bp, 2, none⟩ = some (.slice aL nl cl) := hbox.cell 2
  have HG1 : Hid (w.grownBy w1 none) := hg1
  have HBX : Hid (Blk w1 bp #[.slice (some ⟨b, o, none⟩) n cI, .int .i64 2, .slice aL nl cl] 62) := hbox
  clear hg1 hbox q0 q5 q6
  have HAT : Hid (∀ (wq : World) (A : Nat) (x : Int), w1.grownBy wq none → A < n → xs.getD A 0 = x → Calls Tryf.prog 46 #[.int .u64 x, .pointer (some ⟨bp, 0, none⟩)] wq fun e w' => e = .returned (.int .i64 A) ∧ w' = wq) := by
    intro wq A x hq hA hx
    subst hx
    exact at_any bp b o n cI A xs wq (by omega) (hq.cell b0 (by simp)) (fun i hi => hq.cell (HG1.out.cell (HC.out i hi) (by simp)) (by simp)) HA.out hA
  have hmk := mk38 (n + 1) (by omega) w1
  rw [Int.natCast_add, Int.natCast_one] at hmk
  go_upto_block 0 with fail
  have hst : Blk (w1.alloc (.cells (izA (n + 1)) 3)) w1.heap.size (iA (f1 ls 0) (n + 1)) 3 := by rw [f1_zero, ← izA_eq]; exact heap_alloc_new w1 _
  have hg2 : w1.grownBy (w1.alloc (.cells (izA (n + 1)) 3)) none := World.grownBy_alloc _ _ _
  generalize hbst : w1.heap.size = bst at hst ⊢
  generalize (w1.alloc (.cells (izA (n + 1)) 3)) = w2 at hst hg2 ⊢
  go_wp2_with fail
  go_loopg [35] nl (fun t v wr => ∃ k : Nat, v = .int .i64 k ∧ k + t = nl ∧ w1.grownBy wr none ∧ Blk wr bst (iA (f1 ls k) (n + 1)) 3)
  case atStart => exact ⟨0, rfl, by omega, hg2, hst⟩
  case round =>
    clear hst hg2 hmk
    obtain ⟨k, rfl, hk, hg, hB⟩ := hrel
    have HG : Hid (w1.grownBy wr none) := hg
    by_cases hlt : k < nl
    · obtain ⟨lb, lo, rfl, hlc⟩ := HL.out (by omega)
      obtain ⟨k0, k1⟩ := hlc k hlt
      obtain ⟨l1, l2, l3⟩ := HLs.out k hlt
      obtain ⟨A, B, hAB⟩ : ∃ A B, ls.getD k (0, 0) = (A, B) := ⟨_, _, rfl⟩
      rw [hAB] at k0 k1 l1 l2 l3
      simp only at k0 k1 l1 l2 l3
      have c0 : wr.cell? ⟨lb, lo + k * 2, none⟩ = some (.int .u64 (xs.getD A 0)) := hg.cell (HG1.out.cell k0 (by simp)) (by simp)
      have c1 : wr.cell? ⟨lb, lo + k * 2 + 1, none⟩ = some (.int .u64 (xs.getD B 0)) := hg.cell (HG1.out.cell k1 (by simp)) (by simp)
      have hfb := f1_bd ls k
      have HB : Hid (Blk wr bst (iA (f1 ls k) (n + 1)) 3) := hB
      have HST : Hid (∀ g, g = f1 ls k → fset (fset g (A + 1) (g (A + 1) + 1)) (B + 1) (fset g (A + 1) (g (A + 1) + 1) (B + 1) + 1) = f1 ls (k + 1)) := fun g e => by subst e; exact f1_step ls k A B hAB l3
      have hbl : bst < wr.heap.size := hB.lt
      clear k0 k1 hB hlc hg hAB
      generalize hx : xs.getD A 0 = x at c0
      generalize hy : xs.getD B 0 = y at c1
      have HX : Hid (xs.getD A 0 = x) := hx
      have HY : Hid (xs.getD B 0 = y) := hy
      clear hx hy
      generalize hgf : f1 ls k = gf at HB hfb
      have HF : Hid (gf = f1 ls k) := hgf.symm
      clear hgf
      obtain ⟨ha0, ha1⟩ := hfb (A + 1)
      obtain ⟨hb0, hb1⟩ := hfb (B + 1)
      clear hfb
      have hw3 : w1.grownBy (wr.alloc (.cells #[.int .u64 x, .int .u64 y] 47)) none := grown_trans HG.out (World.grownBy_alloc _ _ _)
      have hB3 : Blk (wr.alloc (.cells #[.int .u64 x, .int .u64 y] 47)) bst (iA gf (n + 1)) 3 := HB.out.grown (World.grownBy_alloc _ _ none) (by simp)
      have hN3 : Blk (wr.alloc (.cells #[.int .u64 x, .int .u64 y] 47)) wr.heap.size #[.int .u64 x, .int .u64 y] 47 := heap_alloc_new wr _
      have hC1 := HAT.out _ A x hw3 l1 HX.out
      go_wp2_with fail
      generalize hbn : wr.heap.size = bn at hN3 hbl ⊢
      generalize (wr.alloc (.cells #[.int .u64 x, .int .u64 y] 47)) = w3 at hw3 hB3 hN3 hC1 ⊢
      refine hC1.mono ?_
      rintro e w' ⟨rfl, hw'⟩
      subst hw'
      clear hC1
      have d0 := blk_icell hB3 (A + 1) (by omega)
      rw [Nat.zero_add] at d0
      have e0 : w'.frozen? ⟨bst, A + 1, none⟩ = false := hB3.frozen _
      have n0 : w'.cell? ⟨bn, 0, none⟩ = some (.int .u64 x) := hN3.cell 0
      have n1 : w'.cell? ⟨bn, 1, none⟩ = some (.int .u64 y) := hN3.cell 1
      have hne : bst ≠ bn := by omega
      go_wp2_with fail
      have hB4 := blk_iset hB3 (A + 1) (gf (A + 1) + 1)
      have hw4 : w1.grownBy (w'.setCell ⟨bst, A + 1, none⟩ (.int .i64 (gf (A + 1) + 1))) none := grown_then hw3 (grown_set _ _ _) (fun j e => by cases e; exact .inl (by show w1.heap.size ≤ bst; omega))
      generalize (w'.setCell ⟨bst, A + 1, none⟩ (.int .i64 (gf (A + 1) + 1))) = w4 at hB4 hw4 ⊢
      clear d0 e0 n0 n1 hB3 hN3
      refine (HAT.out w4 B y hw4 l2 HY.out).mono ?_
      rintro e w5 ⟨rfl, hw'⟩
      subst hw'
      have d0 := blk_icell hB4 (B + 1) (by omega)
      rw [Nat.zero_add] at d0
      have hz : fset gf (A + 1) (gf (A + 1) + 1) (B + 1) = gf (B + 1) := by unfold fset; rw [if_neg (by omega)]
      rw [hz] at d0
      have e0 : w5.frozen? ⟨bst, B + 1, none⟩ = false := hB4.frozen _
      have hB5 := blk_iset hB4 (B + 1) (gf (B + 1) + 1)
      have hw5 : w1.grownBy (w5.setCell ⟨bst, B + 1, none⟩ (.int .i64 (gf (B + 1) + 1))) none := grown_then hw4 (grown_set _ _ _) (fun j e => by cases e; exact .inl (by show w1.heap.size ≤ bst; omega))
      have HB5 : Hid (Blk (w5.setCell ⟨bst, B + 1, none⟩ (.int .i64 (gf (B + 1) + 1))) bst (iA (f1 ls (k + 1)) (n + 1)) 3) := by
        show Blk _ _ _ _
        rw [← HST.out gf HF.out, hz]
        exact hB5
      clear hB4 hB5 hz
      go_wp2_with fail
      go_roundg (gk - 1)
      case measure => omega
      case rel => exact ⟨k + 1, by go_num, by omega, hw5, HB5.out⟩
    · obtain rfl : nl = k := by omega
      clear HG
      have r5 : wr.cell? ⟨bs, 5, none⟩ = some (.slice (some ⟨b, o, none⟩) n n) := hg.cell p5 (by simp)
      have HG : Hid (w1.grownBy wr none) := hg
      have HB : Hid (Blk wr bst (iA (f2 ls nl 0) (n + 1)) 3) := by rw [← f2_zero] at hB; exact hB
      clear hB hg
      go_wp2_with fail
      go_loopg [65] n (fun t v wr => ∃ m : Nat, v = .int .i64 m ∧ m + t = n ∧ w1.grownBy wr none ∧ Blk wr bst (iA (f2 ls nl m) (n + 1)) 3)
      case atStart => exact ⟨0, rfl, by omega, HG.out, HB.out⟩
      case round =>
        clear HG HB r5
        obtain ⟨m, rfl, hm, hg, hB⟩ := hrel
        by_cases hlt : m < n
        · have d0 := blk_icell hB m (by omega)
          have d1 := blk_icell hB (m + 1) (by omega)
          rw [Nat.zero_add] at d0 d1
          have e1 : wr.frozen? ⟨bst, m + 1, none⟩ = false := hB.frozen _
          obtain ⟨x0, x1⟩ := f2_bd ls nl m m n HLs.out (by omega)
          obtain ⟨y0, y1⟩ := f2_bd ls nl m (m + 1) n HLs.out (by omega)
          have hB2 := blk_iset hB (m + 1) (f2 ls nl m (m + 1) + f2 ls nl m m)
          rw [f2_step] at hB2
          generalize f2 ls nl m m = v0 at d0 x0 x1 hB2
          generalize f2 ls nl m (m + 1) = v1 at d1 y0 y1 hB2
          have HB2 : Hid (Blk (wr.setCell ⟨bst, m + 1, none⟩ (.int .i64 (v1 + v0))) bst (iA (f2 ls nl (m + 1)) (n + 1)) 3) := hB2
          have HG2 : Hid (w1.grownBy (wr.setCell ⟨bst, m + 1, none⟩ (.int .i64 (v1 + v0))) none) := grown_then hg (grown_set _ _ _) (fun j e => by cases e; exact .inl (by show w1.heap.size ≤ bst; omega))
          clear hB hB2 hg
          go_wp2_with fail
          go_region
          go_wp2_with fail
          go_roundg (gk - 1)
          case measure => omega
          case rel => exact ⟨m + 1, by go_num, by omega, grown_drew HG2.out, HB2.out.drew⟩
        · obtain rfl : n = m := by omega
          have s5 : wr.cell? ⟨bs, 5, none⟩ = some (.slice (some ⟨b, o, none⟩) n n) := hg.cell p5 (by simp)
          have s2 : wr.cell? ⟨bp, 2, none⟩ = some (.slice aL nl cl) := hg.cell b2 (by simp)
          have hmk2 := mk22 (2 * nl) (by omega) wr
          rw [show ((2 * nl : Nat) : Int) = 2 * (nl : Int) by omega] at hmk2
          have hgv : Blk (wr.alloc (.cells (uA (fun _ => 0) (2 * nl)) 23)) wr.heap.size (uA (fun _ => 0) (2 * nl)) 23 := heap_alloc_new wr _
          have hg3 : w1.grownBy (wr.alloc (.cells (uA (fun _ => 0) (2 * nl)) 23)) none := grown_trans hg (World.grownBy_alloc _ _ _)
          have hB3 : Blk (wr.alloc (.cells (uA (fun _ => 0) (2 * nl)) 23)) bst (iA (f2 ls nl n) (n + 1)) 3 := hB.grown (World.grownBy_alloc _ _ none) (by simp)
          have hblt : bst < wr.heap.size := hB.lt
          have u5 := ca s5 (.cells (uA (fun _ => 0) (2 * nl)) 23)
          clear hB hg
          go_upto_region 15 with fail
          generalize hbgv : wr.heap.size = bgv at hgv hblt ⊢
          generalize (wr.alloc (.cells (uA (fun _ => 0) (2 * nl)) 23)) = w3 at hgv hg3 hB3 u5 ⊢
          have hcl := clone48 bst n (n + 1) (f2 ls nl n) w3 (by omega) hn0 (fun i hi => blk_icell hB3 i (by omega))
          go_wp2_with fail
          refine hcl.mono ?_
          rintro e w4 ⟨bnx, cnx, rfl, hnx1, hnx, hg4⟩
          clear hcl u5 s5 s2 hmk2
          have hbgv3 : bgv < w3.heap.size := hgv.lt
          have hG3 : G3 w1 w4 bst bgv bnx n nl ls (f3 ls nl 0) (fun _ => 0) := ⟨grown_trans hg3 hg4, hB3.grown hg4 (by simp), hgv.grown hg4 (by simp), hnx.congr fun i hi => f23 ls nl n i (by omega), by omega, by omega, by have := hg3.size; omega, by omega, by omega, by omega⟩
          have s2 : w4.cell? ⟨bp, 2, none⟩ = some (.slice aL nl cl) := hG3.grown.cell b2 (by simp)
          clear hg3 hg4 hB3 hgv hnx
          go_wp2_with fail
          go_loopg [96] nl (fun t v wr => ∃ (k : Nat) (h : Nat → Int), v = .int .i64 k ∧ k + t = nl ∧ G3 w1 wr bst bgv bnx n nl ls (f3 ls nl k) h ∧ Giv ls nl k h)
          case atStart => exact ⟨0, _, rfl, by omega, hG3, Giv.zero _ _ _⟩
          case round =>
            clear hG3 s2
            obtain ⟨k, h, rfl, hk, hG, hGi⟩ := hrel
            by_cases hlt : k < nl
            · obtain ⟨lb, lo, rfl, hlc⟩ := HL.out (by omega)
              obtain ⟨k0, k1⟩ := hlc k hlt
              obtain ⟨l1, l2, l3⟩ := HLs.out k hlt
              obtain ⟨A, B, hAB⟩ : ∃ A B, ls.getD k (0, 0) = (A, B) := ⟨_, _, rfl⟩
              rw [hAB] at k0 k1 l1 l2 l3
              simp only at k0 k1 l1 l2 l3
              have c0 : wr.cell? ⟨lb, lo + k * 2, none⟩ = some (.int .u64 (xs.getD A 0)) := hG.grown.cell (HG1.out.cell k0 (by simp)) (by simp)
              have c1 : wr.cell? ⟨lb, lo + k * 2 + 1, none⟩ = some (.int .u64 (xs.getD B 0)) := hG.grown.cell (HG1.out.cell k1 (by simp)) (by simp)
              clear k0 k1 hlc
              generalize hx : xs.getD A 0 = x at c0
              generalize hy : xs.getD B 0 = y at c1
              have HX : Hid (xs.getD A 0 = x) := hx
              have HY : Hid (xs.getD B 0 = y) := hy
              have HAB : Hid (ls.getD k (0, 0) = (A, B)) := hAB
              have hG5 : G3 w1 (wr.alloc (.cells #[.int .u64 x, .int .u64 y] 47)) bst bgv bnx n nl ls (f3 ls nl k) h := hG.grows (World.grownBy_alloc _ _ _)
              have hN3 : Blk (wr.alloc (.cells #[.int .u64 x, .int .u64 y] 47)) wr.heap.size #[.int .u64 x, .int .u64 y] 47 := heap_alloc_new wr _
              have HGV : Hid (Giv ls nl k h) := hGi
              clear hG hGi hx hy hAB
              go_upto_region 19 with fail
              generalize hbn : wr.heap.size = bn at hN3 ⊢
              generalize (wr.alloc (.cells #[.int .u64 x, .int .u64 y] 47)) = w5 at hG5 hN3 ⊢
              have n0 : w5.cell? ⟨bn, 0, none⟩ = some (.int .u64 x) := hN3.cell 0
              have n1 : w5.cell? ⟨bn, 1, none⟩ = some (.int .u64 y) := hN3.cell 1
              have HCA : Hid (∀ q, Calls Tryf.prog 46 #[.int .u64 x, .pointer (some ⟨bp, 0, none⟩)] (w5.drewN q) fun e w' => e = .returned (.int .i64 A) ∧ w' = w5.drewN q) := fun q => HAT.out _ A x (hG5.drew q).grown l1 HX.out
              have HCB : Hid (∀ q, Calls Tryf.prog 46 #[.int .u64 y, .pointer (some ⟨bp, 0, none⟩)] (w5.drewN q) fun e w' => e = .returned (.int .i64 B) ∧ w' = w5.drewN q) := fun q => HAT.out _ B y (hG5.drew q).grown l2 HY.out
              have HG5 : Hid (G3 w1 w5 bst bgv bnx n nl ls (f3 ls nl k) h) := hG5
              clear hG5 hN3 hbn
              go_cut [15, 16] (fun va vb wc => va = .int .i64 A ∧ vb = .int .i64 B ∧ ∃ q, wc = w5.drewN q)
              case first =>
                refine wp_region_quiet_lit (by kernel_rfl) (by kernel_rfl) ?_
                refine wpQuiet_step (fun K hK => ?_)
                go_simp
                refine hK _ ?_; clear hK K
                refine wpQuiet_step (fun K hK => ?_)
                go_simp
                refine hK _ ?_; clear hK K
                refine wpQuiet_step (fun K hK => ?_)
                go_simp
                refine hK _ ?_; clear hK K
                refine wpQuiet_step (fun K hK => ?_)
                go_simp
                refine ⟨_, fun q => Calls.quiet_of_same (HCA.out q), hK _ ?_⟩; clear hK K
                refine wpQuiet_step (fun K hK => ?_)
                go_simp
                refine hK _ ?_; clear hK K
                refine wpQuiet_step (fun K hK => ?_)
                go_simp
                refine hK _ ?_; clear hK K
                refine wpQuiet_step (fun K hK => ?_)
                go_simp
                refine hK _ ?_; clear hK K
                refine wpQuiet_step (fun K hK => ?_)
                go_simp
                refine ⟨_, fun q => Calls.quiet_of_same (HCB.out q), hK _ ?_⟩; clear hK K
                refine wpQuiet_step (fun K hK => ?_)
                go_simp
                refine hK _ ?_; clear hK K
                refine wpQuiet_step (fun K hK => ?_)
                go_simp
                refine hK _ ?_; clear hK K
                refine wpQuiet_nil ?_
                rintro _ ⟨nq, rfl⟩
                go_wp2_with fail
                go_meet
                case rel => exact ⟨rfl, rfl, _, rfl⟩
              case rest =>
                obtain ⟨rfl, rfl, q9, hwc⟩ := hcut
                have hG6 : G3 w1 wc bst bgv bnx n nl ls (f3 ls nl k) h := by rw [hwc]; exact HG5.out.drew q9
                clear hwc HG5 HCA HCB n0 n1 HX HY c0 c1
                have HST : Hid (fset (fset (f3 ls nl k) A (f3 ls nl k A + 1)) B (f3 ls nl k B + 1) = f3 ls nl (k + 1)) := by
                  have := f3_step ls nl k A B HAB.out l3
                  rw [show fset (f3 ls nl k) A (f3 ls nl k A + 1) B = f3 ls nl k B by unfold fset; rw [if_neg (Ne.symm l3)]] at this
                  exact this
                have HGS := HGV.out.step hlt HAB.out l3
                have da := deg_succ HAB.out A
                have db := deg_succ HAB.out B
                simp only [if_true, if_neg l3, if_neg (Ne.symm l3)] at da db
                have ma := deg_mono ls A (show k + 1 ≤ nl by omega)
                have mb := deg_mono ls B (show k + 1 ≤ nl by omega)
                have pa1 := pre_mono ls nl (show A + 1 ≤ n by omega)
                have pb1 := pre_mono ls nl (show B + 1 ≤ n by omega)
                have pt := pre_total ls n nl fun t ht => ⟨(HLs.out t ht).1, (HLs.out t ht).2.1⟩
                have ea : pre ls nl (A + 1) = pre ls nl A + deg ls nl A := rfl
                have eb : pre ls nl (B + 1) = pre ls nl B + deg ls nl B := rfl
                have hne : pre ls nl A + deg ls k A ≠ pre ls nl B + deg ls k B := fun e => l3 (slot_inj (show deg ls k A < deg ls nl A by omega) (show deg ls k B < deg ls nl B by omega) e).1
                have hpa : pre ls nl A + deg ls k A < 2 * nl := by omega
                have hpb : pre ls nl B + deg ls k B < 2 * nl := by omega
                clear da db ma mb pa1 pb1 pt ea eb
                have x0 := hG6.nx.cell l1
                have x1 := hG6.nx.cell l2
                rw [show f3 ls nl k A = ((pre ls nl A + deg ls k A : Nat) : Int) from rfl] at x0 HST
                rw [show f3 ls nl k B = ((pre ls nl B + deg ls k B : Nat) : Int) from rfl] at x1 HST
                generalize pre ls nl A + deg ls k A = pa at x0 HST HGS hne hpa
                generalize pre ls nl B + deg ls k B = pb at x1 HST HGS hne hpb
                have v0 : wc.cell? ⟨bgv, pa, none⟩ = some (.int .u64 (h pa)) := by rw [hG6.gv.cell, uA_get hpa]
                have v1 : wc.cell? ⟨bgv, pb, none⟩ = some (.int .u64 (h pb)) := by rw [hG6.gv.cell, uA_get hpb]
                have y0 := hG6.nx.frozen A
                have y1 := hG6.nx.frozen B
                have z0 := hG6.gv.frozen pa
                have z1 := hG6.gv.frozen pb
                have d3 := hG6.d3
                have d3' := Ne.symm d3
                have HGS' : Hid (Giv ls nl (k + 1) (fset (fset h pa B) pb A)) := HGS
                have HG6 : Hid (G3 w1 wc bst bgv bnx n nl ls (f3 ls nl k) h) := hG6
                clear HGS hG6 HGV HAB
                generalize h pa = ha at v0
                generalize h pb = hb' at v1
                go_wp2_with fail
                go_roundg (gk - 1)
                case measure => omega
                case rel =>
                  refine ⟨k + 1, fset (fset h pa B) pb A, by go_num, by omega, ?_, HGS'.out⟩
                  rw [← HST.out]
                  exact (((HG6.out.setG pa B).setG pb A).setN l1 _).setN l2 _
            · obtain rfl : nl = k := by omega
              have hLW : LW W wr (some ⟨b, o, none⟩) aL n cI nl cl 2 c heal swap sel prop rm bs bv bt r g bst bgv ls (fun j => ([] : List (List Int)).getD j []) S0 h := by
                have hgw : w.grownBy wr none := grown_trans HG1.out hG.grown
                have z := HG1.out.size
                obtain ⟨cs', hb', _⟩ := HB0.out.sat
                obtain ⟨cv, hv', _⟩ := HB0.out.vs
                obtain ⟨ct, ht', _⟩ := HB0.out.st
                have t1 := hb'.lt
                have t2 := hv'.lt
                have t3 := ht'.lt
                have t4 := HB0.out.lbs
                have t5 := hG.s1
                have t6 := hG.s2
                exact LW.relist ⟨HB0.out.grows hgw (by simp), HV0.out.grows hgw (by simp) (by simp), HR0.out.grows hgw (by simp) (by simp), hG.st, hG.gv, HLR.out.1, HLR.out.2, by omega, by omega, hG.d1, by omega, by omega, by omega, by omega, by omega, by omega⟩ (fun j _ => by simp)
              have hGF : GivF ls nl 0 h := fun i _ => ⟨hGi.sub i, hGi.all i⟩
              have HLW : Hid (LW W wr (some ⟨b, o, none⟩) aL n cI nl cl 2 c heal swap sel prop rm bs bv bt r g bst bgv ls (fun j => ([] : List (List Int)).getD j []) S0 h) := hLW
              have HGF : Hid (GivF ls nl 0 h) := hGF
              obtain ⟨cs9, hb9, h90, _, h96, _⟩ := hLW.base.sat
              have q6 : wr.cell? ⟨bs, 6, none⟩ = some (.slice (some ⟨bv, 0, none⟩) n n) := (hb9.cell 6).trans h96
              clear hGF hLW hGi hG hb9 h90 h96 HG1 HAT HBX b0 b2 p0 p5 p6 HB0 HV0 HR0 HC HA HL
              go_wp2_with fail
              go_loopg [142] n (fun t v wr => ∃ (k S : Nat) (Es : List (List Int)) (h : Nat → Int), v = .int .i64 k ∧ k + t = n ∧ LW W wr (some ⟨b, o, none⟩) aL n cI nl cl 2 c heal swap sel prop rm bs bv bt r g bst bgv ls (fun j => Es.getD j []) S h ∧ LRun ls nl c S0 k S Es ∧ GivF ls nl k h)
              case atStart => exact ⟨0, S0, [], _, rfl, by omega, HLW.out, ⟨rfl, rfl⟩, HGF.out⟩
              case round =>
                clear HLW HGF q6 h
                obtain ⟨k, S, Es, h, rfl, hk, hLW, hLR, hGF⟩ := hrel
                by_cases hlt : k < n
                · obtain ⟨cs9, hb9, h90, _, h96, _⟩ := hLW.base.sat
                  have q0 : wr.cell? ⟨bs, 0, none⟩ = some (.int .i64 c) := (hb9.cell 0).trans h90
                  have q6 : wr.cell? ⟨bs, 6, none⟩ = some (.slice (some ⟨bv, 0, none⟩) n n) := (hb9.cell 6).trans h96
                  have s0 : wr.cell? ⟨bst, k, none⟩ = some (.int .i64 (pre ls nl k : Nat)) := by
                    rw [hLW.st.cell, iA_get (by omega)]; unfold f2; rw [if_pos (by omega)]
                  have s1 : wr.cell? ⟨bst, k + 1, none⟩ = some (.int .i64 (pre ls nl (k + 1) : Nat)) := by
                    rw [hLW.st.cell, iA_get (by omega)]; unfold f2; rw [if_pos (by omega)]
                  have pz := pre_mono ls nl (show k + 1 ≤ n by omega)
                  rw [pre_total ls n nl fun t ht => ⟨(HLs.out t ht).1, (HLs.out t ht).2.1⟩] at pz
                  have pd : pre ls nl (k + 1) = pre ls nl k + deg ls nl k := rfl
                  obtain ⟨hgs, hga⟩ := hGF k (Nat.le_refl _)
                  have HGS : Hid (∀ t, t < deg ls nl k → ∃ j, nbr ls nl k j ∧ h (pre ls nl k + t) = (j : Int)) := hgs
                  have HGA : Hid (∀ j, nbr ls nl k j → ∃ t, t < deg ls nl k ∧ h (pre ls nl k + t) = (j : Int)) := hga
                  have HGF : Hid (GivF ls nl k h) := hGF
                  have HLW : Hid (LW W wr (some ⟨b, o, none⟩) aL n cI nl cl 2 c heal swap sel prop rm bs bv bt r g bst bgv ls (fun j => Es.getD j []) S h) := hLW
                  have HLR : Hid (LRun ls nl c S0 k S Es) := hLR
                  obtain ⟨g1, hg1⟩ : ∃ t, t = gk := ⟨_, rfl⟩
                  rw [← hg1] at hk
                  have HKe : Hid (g1 = gk) := hg1
                  have HK : Hid (k + g1 = n) := hk
                  clear hgs hga hGF hLW hLR hb9 h90 h96 hk hg1
                  rw [pd] at s1 pz
                  generalize hoff : pre ls nl k = off at s0 s1 pz HGS HGA
                  generalize hN : deg ls nl k = N at s1 pz HGS HGA
                  clear pd
                  have HOF : Hid (pre ls nl k = off) := hoff
                  have HDG : Hid (deg ls nl k = N) := hN
                  clear hoff hN
                  go_upto_region 28 with fail
                  go_cut [18] (fun v wc => ∃ off' cap q, v = .slice (some ⟨bgv, off', none⟩) N cap ∧ (N = 0 ∨ off' = off) ∧ off' + N ≤ 2 * nl ∧ N ≤ cap ∧ cap ≤ 20000 ∧ wc = wr.drewN q)
                  case first =>
                    have hM9 : 2 * nl ≤ 20000 := by omega
                    clear HLW HGF HGS HGA HLR HOF HDG HK HKe HLs
                    generalize 2 * nl = M9 at *
                    by_cases hz : off = M9
                    · subst hz
                      go_quiet (fail)
                      go_wp2_with fail
                      go_meet
                      case rel => exact ⟨0, 0, _, by rw [Nat.add_sub_cancel_left], .inl (by omega), by omega, by omega, by omega, rfl⟩
                    · have hz' : ¬ M9 = off := fun e => hz e.symm
                      go_quiet (fail)
                      go_wp2_with fail
                      go_meet
                      case rel => exact ⟨off, M9 - off, _, by first | rfl | rw [Nat.add_sub_cancel_left], .inr rfl, by omega, by omega, by omega, rfl⟩
                  case rest =>
                    obtain ⟨off', cap, q9, rfl, ho, hfit, hcap, hcap2, hwc⟩ := hcut
                    have hLW : LW W wc (some ⟨b, o, none⟩) aL n cI nl cl 2 c heal swap sel prop rm bs bv bt r g bst bgv ls (fun j => Es.getD j []) S h := by rw [hwc]; exact HLW.out.drew q9
                    clear hwc HLW q0 q6 s0 s1
                    have HLW : Hid (LW W wc (some ⟨b, o, none⟩) aL n cI nl cl 2 c heal swap sel prop rm bs bv bt r g bst bgv ls (fun j => Es.getD j []) S h) := hLW
                    have HO : Hid (N = 0 ∨ off' = off) := ho
                    have hR := R.of_gv hLW.gv hfit
                    have hSo := sort_any wc (uA h (2 * nl)) bgv off' N cap _ wc hR hLW.gv.lt (by omega)
                    clear hLW ho hR
                    go_wp2_with fail
                    refine hSo.mono ?_
                    rintro e w7 ⟨rfl, d1, hR1, hP1, hS1⟩
                    have HP1 : Hid (PermIn 0 N (cutA h off' N) d1) := hP1
                    have hCo := comp_any wc (uA h (2 * nl)) bgv off' N cap d1 w7 hR1 hcap (by omega) hS1
                    clear hSo hR1 hP1 hS1
                    go_wp2_with fail
                    refine hCo.mono ?_
                    rintro e w8 ⟨K, d2, rfl, hK, hR2, hD⟩
                    have hLW8 : LW W w8 (some ⟨b, o, none⟩) aL n cI nl cl 2 c heal swap sel prop rm bs bv bt r g bst bgv ls (fun j => Es.getD j []) S (hwin h off' d2) := HLW.out.turned hR2.grown (by rw [← win_uA]; exact hR2.blk)
                    have hNb : NbF ls nl k (fun t => hwin h off' d2 (off' + t)) K := nb_of' HGS.out HGA.out HO.out HP1.out hD hR2.size hK
                    have hKn : K ≤ n - 1 := hNb.le HLs.out hlt
                    have HW2 : Hid (∀ i, ¬ (off' ≤ i ∧ i < off' + N) → hwin h off' d2 i = h i) := fun i hi => hwin_out (by rw [hR2.size]; exact hi)
                    clear hCo hR2 hD HP1 HLW HGS HGA
                    generalize hwin h off' d2 = h2 at hLW8 hNb HW2
                    have HLW : Hid (LW W w8 (some ⟨b, o, none⟩) aL n cI nl cl 2 c heal swap sel prop rm bs bv bt r g bst bgv ls (fun j => Es.getD j []) S h2) := hLW8
                    have HNb : Hid (NbF ls nl k (fun t => h2 (off' + t)) K) := hNb
                    obtain ⟨cs9, hb9, h90, _, h96, _⟩ := hLW8.base.sat
                    have q0 : w8.cell? ⟨bs, 0, none⟩ = some (.int .i64 c) := (hb9.cell 0).trans h90
                    clear hLW8 hNb hb9 h90 h96
                    go_upto_if 167 with fail
                    generalize hbb : decide (c < K) = bb
                    go_cut [18] (fun v wc => ∃ (M S' : Nat) (h' : Nat → Int), v = .slice (some ⟨bgv, off', none⟩) M cap ∧ M ≤ c ∧ M ≤ n - 1 ∧ M ≤ N ∧ LW W wc (some ⟨b, o, none⟩) aL n cI nl cl 2 c heal swap sel prop rm bs bv bt r g bst bgv ls (fun j => Es.getD j []) S' h' ∧ NRun ls nl c k S (mapR (fun t => h' (off' + t)) M) S' ∧ (∀ i, ¬ (off' ≤ i ∧ i < off' + N) → h' i = h i))
                    case first =>
                      by_cases hcK : c < K
                      · obtain rfl : bb = true := by rw [← hbb]; exact decide_eq_true hcK
                        clear hbb
                        go_wp2_with fail
                        go_loopg [173] c (fun t v wr => ∃ (m S' : Nat) (h' : Nat → Int), v = .int .i64 m ∧ m + t = c ∧ LW W wr (some ⟨b, o, none⟩) aL n cI nl cl 2 c heal swap sel prop rm bs bv bt r g bst bgv ls (fun j => Es.getD j []) S' h' ∧ SRun K (fun t => h2 (off' + t)) S m S' (fun t => h' (off' + t)) ∧ (∀ i, ¬ (off' ≤ i ∧ i < off' + N) → h' i = h i))
                        case atStart => exact ⟨0, S, h2, rfl, by omega, HLW.out, ⟨rfl, fun _ _ => rfl⟩, HW2.out⟩
                        case round =>
                          clear HLW HW2 q0
                          obtain ⟨m, S', h', rfl, hm, hLW, hSR, hW⟩ := hrel
                          have HM : Hid (m + gk = c) := hm
                          have HLW : Hid (LW W wr (some ⟨b, o, none⟩) aL n cI nl cl 2 c heal swap sel prop rm bs bv bt r g bst bgv ls (fun j => Es.getD j []) S' h') := hLW
                          have HSR : Hid (SRun K (fun t => h2 (off' + t)) S m S' (fun t => h' (off' + t))) := hSR
                          have HW : Hid (∀ i, ¬ (off' ≤ i ∧ i < off' + N) → h' i = h i) := hW
                          have hI := intN_any r g S' ((K : Int) - m) wr hLW.rng
                          obtain ⟨cs9, hb9, h90, _, h96, _⟩ := hLW.base.sat
                          have q0 : wr.cell? ⟨bs, 0, none⟩ = some (.int .i64 c) := (hb9.cell 0).trans h90
                          clear hm hLW hSR hW hb9 h90 h96
                          by_cases hmc : m < c
                          · clear q0
                            go_wp2_with fail
                            refine (hI (by omega) (by omega)).mono ?_
                            rintro e w9 ⟨kd, S2, rfl, k0, k1, hD, hR4, hg4⟩
                            obtain ⟨kn, rfl⟩ : ∃ kn : Nat, kd = kn := ⟨kd.toNat, by omega⟩
                            have hLW9 := HLW.out.drawn hg4 hR4
                            have HD : Hid (Draw ((K : Int) - m) S' kn S2) := hD
                            have HLW9 : Hid (LW W w9 (some ⟨b, o, none⟩) aL n cI nl cl 2 c heal swap sel prop rm bs bv bt r g bst bgv ls (fun j => Es.getD j []) S2 h') := hLW9
                            obtain ⟨G, hG⟩ : ∃ G : Nat → Int, ∀ t, G t = h' (off' + t) := ⟨fun t => h' (off' + t), fun _ => rfl⟩
                            have hcw : ∀ t, t < N → w9.cell? ⟨bgv, off' + t, none⟩ = some (.int .u64 (G t)) := fun t ht => by rw [hG, hLW9.gv.cell, uA_get (by omega)]
                            have hfw : ∀ t, t < N → w9.frozen? ⟨bgv, off' + t, none⟩ = false := fun t _ => hLW9.gv.frozen _
                            obtain ⟨v1, hv1⟩ : ∃ v, (w9.setCell ⟨bgv, off' + m, none⟩ (.int .u64 (G (m + kn)))).cell? ⟨bgv, off' + (m + kn), none⟩ = some v := by
                              rw [(hLW9.gv.set _ _).cell]
                              exact ⟨_, Array.getElem?_eq_getElem (by rw [Array.size_setIfInBounds, uA_size]; omega)⟩
                            have HG : Hid (∀ t, G t = h' (off' + t)) := hG
                            clear hI hD hLW9 hR4 hg4 hG HLW
                            have k1' : m + kn < K := by omega
                            clear k0 k1
                            go_wp2_with fail
                            go_region
                            go_wp2_with fail
                            go_roundg (gk - 1)
                            case measure => have := HM.out; omega
                            case rel =>
                              refine ⟨m + 1, S2, fset (fset h' (off' + m) (h' (off' + (m + kn)))) (off' + (m + kn)) (h' (off' + m)), by go_num, by have := HM.out; omega, ?_, ⟨S', _, kn, HSR.out, k1', HD.out, fun t _ => fsw_set h' off' m (m + kn) t⟩, fun i hi => ?_⟩
                              · rw [HG.out, HG.out]
                                exact ((HLW9.out.setG _ _).setG _ _).drew 1
                              · unfold fset
                                rw [if_neg (by omega), if_neg (by omega)]
                                exact HW.out i hi
                          · obtain rfl : m = c := by have := HM.out; omega
                            clear hI
                            go_wp2_with fail
                            go_meet
                            case rel => exact ⟨m, S', h', rfl, Nat.le_refl _, by omega, by omega, HLW.out, ⟨K, _, HNb.out, .inr ⟨hcK, _, HSR.out, rfl⟩⟩, HW.out⟩
                      · obtain rfl : bb = false := by rw [← hbb]; exact decide_eq_false hcK
                        clear hbb
                        go_wp2_with fail
                        go_meet
                        case rel => exact ⟨K, S, h2, rfl, by omega, hKn, hK, HLW.out, ⟨K, _, HNb.out, .inl ⟨by omega, rfl, rfl⟩⟩, HW2.out⟩
                    case rest =>
                      obtain ⟨M, S', h', rfl, hMc, hMn, hMN, hLW, hNR, hW⟩ := hcut
                      clear hbb
                      have HGF2 : Hid (GivF ls nl (k + 1) h') := HGF.out.next (off := off') (by rw [HDG.out, HOF.out]; exact HO.out) (by rw [HDG.out]; exact hW)
                      have HNR : Hid (NRun ls nl c k S (mapR (fun t => h' (off' + t)) M) S') := hNR
                      have hEl := HLR.out.good.1
                      have hLW0 : LW W wc (some ⟨b, o, none⟩) aL n cI nl cl 2 c heal swap sel prop rm bs bv bt r g bst bgv ls (upd (fun j => Es.getD j []) k (mapR (fun t => h' (off' + t)) 0)) S' h' := hLW.relist fun j _ => by
                        unfold upd
                        by_cases e : j = k
                        · rw [if_pos e, e]; simp [mapR, List.getD, hEl]
                        · rw [if_neg e]
                      have HLW0 : Hid (LW W wc (some ⟨b, o, none⟩) aL n cI nl cl 2 c heal swap sel prop rm bs bv bt r g bst bgv ls (upd (fun j => Es.getD j []) k (mapR (fun t => h' (off' + t)) 0)) S' h') := hLW0
                      obtain ⟨cs9, hb9, h90, _, h96, _⟩ := hLW.base.sat
                      have q6 : wc.cell? ⟨bs, 6, none⟩ = some (.slice (some ⟨bv, 0, none⟩) n n) := (hb9.cell 6).trans h96
                      have hMr : M ≤ rm := HRM.out M hMc hMn
                      clear hLW hNR hW hb9 h90 h96 hLW0 hEl HLW HGF HNb HW2 q0
                      go_wp2_with fail
                      go_loopg [214] M (fun t v wr => ∃ m : Nat, v = .int .i64 m ∧ m + t = M ∧ LW W wr (some ⟨b, o, none⟩) aL n cI nl cl 2 c heal swap sel prop rm bs bv bt r g bst bgv ls (upd (fun j => Es.getD j []) k (mapR (fun t => h' (off' + t)) m)) S' h')
                      case atStart => exact ⟨0, rfl, by omega, HLW0.out⟩
                      case round =>
                        clear HLW0 q6
                        obtain ⟨m, rfl, hm, hLW⟩ := hrel
                        have HLW : Hid (LW W wr (some ⟨b, o, none⟩) aL n cI nl cl 2 c heal swap sel prop rm bs bv bt r g bst bgv ls (upd (fun j => Es.getD j []) k (mapR (fun t => h' (off' + t)) m)) S' h') := hLW
                        have HM : Hid (m + gk = M) := hm
                        by_cases hmM : m < M
                        · have cg : wr.cell? ⟨bgv, off' + m, none⟩ = some (.int .u64 (h' (off' + m))) := by rw [hLW.gv.cell, uA_get (by omega)]
                          have hV4 := hLW.vs k hlt
                          rw [upd_same, mapR_len] at hV4
                          have cv : wr.cell? ⟨bv, k * 2 + 1, none⟩ = some (.slice (some ⟨bt, k * rm * 2, none⟩) m rm) := hV4.1.2
                          have lbv : bv < wr.heap.size := World.block_lt_of_cell? _ _ cv
                          have lbt : bt < wr.heap.size := by obtain ⟨ct, h, _⟩ := hLW.base.st; exact h.lt
                          have fv : wr.frozen? ⟨bv, k * 2 + 1, none⟩ = false := by obtain ⟨ct, h, _⟩ := hLW.base.vs; exact h.frozen _
                          have hle : (k + 1) * rm ≤ n * rm := Nat.mul_le_mul_right _ hlt
                          rw [Nat.succ_mul] at hle
                          obtain ⟨y0, hy0⟩ : ∃ x, wr.cell? ⟨bt, k * rm * 2 + m * 2, none⟩ = some x := by
                            obtain ⟨ct, h, h2⟩ := hLW.base.st
                            rw [h.cell]; exact ⟨_, Array.getElem?_eq_getElem (by omega)⟩
                          obtain ⟨y1, hy1⟩ : ∃ x, wr.cell? ⟨bt, k * rm * 2 + m * 2 + 1, none⟩ = some x := by
                            obtain ⟨ct, h, h2⟩ := hLW.base.st
                            rw [h.cell]; exact ⟨_, Array.getElem?_eq_getElem (by omega)⟩
                          have ft0 : wr.frozen? ⟨bt, k * rm * 2 + m * 2, none⟩ = false := by obtain ⟨ct, h, _⟩ := hLW.base.st; exact h.frozen _
                          have ft1 : wr.frozen? ⟨bt, k * rm * 2 + m * 2 + 1, none⟩ = false := by obtain ⟨ct, h, _⟩ := hLW.base.st; exact h.frozen _
                          have hmr : m < rm := by omega
                          have n3 : bv ≠ bt := hLW.base.n3
                          have n3' : bt ≠ bv := Ne.symm n3
                          clear hle hV4 hLW hm
                          generalize hx : h' (off' + m) = x at cg
                          have HX : Hid (h' (off' + m) = x) := hx
                          clear hx
                          go_wp2_with fail
                          go_roundg (gk - 1)
                          case measure => have := HM.out; omega
                          case rel =>
                            have va := HLW.out.append (h' (off' + m)) hlt (by rw [mapR_len]; omega)
                            rw [mapR_len, ← mapR_succ (fun t => h' (off' + t)) m, HX.out] at va
                            exact ⟨m + 1, by go_num, by have := HM.out; omega, va.grows (World.grownBy_alloc _ _ none)⟩
                        · obtain rfl : M = m := by have := HM.out; omega
                          clear hLW hm
                          go_wp2_with fail
                          go_roundg (g1 - 1)
                          case measure =>
                            have h9 := HK.out
                            have h8 := HKe.out
                            omega
                          case rel =>
                            have hOl := HLR.out.good.1
                            refine ⟨k + 1, S', Es ++ [mapR (fun t => h' (off' + t)) M], h', by go_num, by have := HK.out; omega, HLW.out.relist fun j hj => ?_, ⟨S, Es, _, HLR.out, HNR.out, rfl⟩, HGF2.out⟩
                            by_cases e : j = k
                            · subst e; rw [upd_same]; simp [List.getD, ← hOl]
                            · rw [upd_ne _ _ e]
                              by_cases h9 : j < Es.length
                              · simp [List.getD, List.getElem?_append_left h9]
                              · have h2 : (Es ++ [mapR (fun t => h' (off' + t)) M]).length ≤ j := by simp; omega
                                simp only [List.getD, List.getElem?_eq_none (Nat.not_lt.1 h9), List.getElem?_eq_none h2]
                · obtain rfl : n = k := by omega
                  go_wp2_with fail
                  go_end0
                  exact ⟨rfl, S, Es, hLW.base, hLW.vs, hLR⟩
end Go.Proofs.Qxb6614822aFmt
