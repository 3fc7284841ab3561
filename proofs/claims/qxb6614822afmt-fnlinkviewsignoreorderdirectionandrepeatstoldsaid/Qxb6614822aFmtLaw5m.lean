import Derived.Test.Qxb6614822aFmtLaw5p
import Derived.Laws.StructEq
import Derived.BigRegion
import Derived.BigQuiet
import Derived.Deep.QuietTactic
namespace Go.Proofs.Qxb6614822aFmt
open Go.RowKit Pcg

/-- what the law's loops lean on: two samplers with the same views -/
structure Duo (w5 : World) (n c rm be bv bt bv' bt' nl : Nat) (ls : List (Nat × Nat)) (Es : List (List Int)) : Prop where
  v1 : VS w5 bv bt rm n (fun j => Es.getD j [])
  v2 : VS w5 bv' bt' rm n (fun j => Es.getD j [])
  row : Row3 w5 be (endF ls) (2 * nl) (2 * nl)
  run : ∀ k, k < n → ∃ S1 S2, NRun ls nl c k S1 (Es.getD k []) S2
  lks : Lks ls nl n

set_option maxRecDepth 20000 in
set_option maxHeartbeats 4000000 in
theorem s5_main (a aL : Option Addr) (n ca nl cl c : Nat) (xs : List Int) (vs : List (Int × Int)) (s1 s2 : Int) (w : World) (hn : n ≤ 512) (hnl : nl ≤ 4096) (hx : IntsIn .u64 w a n xs) (hl : xs.length = n) (hp : a = none → n = 0 ∧ ca = 0)
    (hL : LnkIn w aL nl vs) (hpL : aL = none → nl = 0 ∧ cl = 0) (hasc : ascB xs n = true) (hc2 : 2 ≤ c) (hcm : c ≤ 9223372036854775807) (hev : c % 2 = 0) (h1 : Word s1) (h2 : Word s2) :
    Calls Tryf.prog 5 #[.slice a n ca, .slice aL nl cl, .int .i64 c, .int .u64 s1, .int .u64 s2] w
      fun e w' => e = .returned (.bool true) ∧ Below w.heap.size w w' := by
  have hA := asc_any a n ca xs w (by omega) hx
  rw [hasc] at hA
  have hev' : ((c : Int) % 2 != 0) = false := by simp; omega
  have HX : Hid (IntsIn .u64 w a n xs) := hx
  have HP : Hid (a = none → n = 0 ∧ ca = 0) := hp
  have HL : Hid (xs.length = n) := hl
  have HLN : Hid (LnkIn w aL nl vs) := hL
  have HPL : Hid (aL = none → nl = 0 ∧ cl = 0) := hpL
  have HAS : Hid (ascB xs n = true) := hasc
  have H1 : Hid (Word s1) := h1
  have H2 : Hid (Word s2) := h2
  clear hx hasc hev hp hl h1 h2 hL hpL
  go_enter Tryf.func5, Tryf.ntmps5
  go_wp2_with (first | (go_at_call 9; refine hA.mono ?_; rintro e w' ⟨rfl, q, rfl⟩) | (go_at_call 17; go_in) | fail)
  clear hA
  have hx1 : IntsIn .u64 (w.drewN q) a n xs := HX.out
  have hL1 : LnkIn (w.drewN q) aL nl vs := HLN.out
  refine (ends_any a aL n ca nl cl xs vs (w.drewN q) (by omega) (by omega) hx1 hL1).mono ?_
  rintro e w2 ⟨hr, hg2⟩
  have HB2 : Hid (Below w.heap.size w w2) := (below_drewN2 (Below.refl _ _) q).trans ((below_of_grown hg2).mono (Nat.le_refl _))
  rcases hr with rfl | ⟨be, ls, rfl, hbe, hRow, hE⟩
  · go_wp2_with fail
    go_ret
    exact ⟨rfl, HB2.out⟩
  have Hx2 : Hid (IntsIn .u64 w2 a n xs) := hx1.grown hg2
  have HL2 : Hid (LnkIn w2 aL nl vs) := hL1.grown hg2
  have HRow : Hid (Row3 w2 be (endF ls) (2 * nl) (2 * nl)) := hRow
  have HE : Hid (Ends ls nl n xs vs) := hE
  have hz2 : w.heap.size ≤ w2.heap.size := HB2.out.size
  clear hx1 hL1 hg2 hRow hE hbe
  go_wp2_with fail
  refine (sim_any aL nl cl vs w2 (by omega) HL2.out HPL.out).mono ?_
  rintro e w4 ⟨p4, rfl, hL4, hg4⟩
  have HL4 : Hid (LnkIn w4 p4 nl vs) := hL4
  have Hg4 : Hid (w2.grownBy w4 none) := hg4
  have hL24 : LnkIn w4 aL nl vs := HL2.out.grown hg4
  have HL24 : Hid (LnkIn w4 aL nl vs) := hL24
  clear hL4 hg4 hL24
  have hmk := mk41 0 (2 * nl) (Nat.zero_le _) (by omega) w4
  rw [show ((0 : Nat) : Int) = 0 from rfl, show ((2 * nl : Nat) : Int) = 2 * (nl : Int) by omega] at hmk
  go_wp2_with fail
  have hg0 : w4.grownBy (w4.alloc (.cells (lzA (2 * nl)) 47)) none := World.grownBy_alloc _ _ _
  have hr0 : RowL (w4.alloc (.cells (lzA (2 * nl)) 47)) w4.heap.size (twice (0, 0) vs nl) 0 (2 * nl) := ⟨_, heap_alloc_new w4 _, by simp [lzA, madeCells], fun i hi => absurd hi (Nat.not_lt_zero _)⟩
  obtain ⟨bm, hbm⟩ : ∃ bm, bm = w4.heap.size := ⟨_, rfl⟩
  rw [← hbm] at hr0 ⊢
  generalize (w4.alloc (.cells (lzA (2 * nl)) 47)) = w5 at hg0 hr0 ⊢
  have hbm2 : w4.heap.size ≤ bm := by omega
  clear hmk hbm
  go_loopg [15, 16] nl (fun t vl v wr => ∃ d : Nat, d + t = nl ∧ v = .int .i64 ((nl : Int) - 1 - d) ∧ vl = .slice (some ⟨bm, 0, none⟩) d (2 * nl) ∧ w4.grownBy wr none ∧ RowL wr bm (twice (0, 0) vs nl) d (2 * nl))
  case atStart => exact ⟨0, by omega, by go_num, rfl, hg0, hr0⟩
  case round =>
    clear hg0 hr0
    obtain ⟨d, hd, rfl, rfl, hg, hR⟩ := hrel
    have HG : Hid (w4.grownBy wr none) := hg
    have HR : Hid (RowL wr bm (twice (0, 0) vs nl) d (2 * nl)) := hR
    by_cases hlt : d < nl
    · obtain ⟨lb, lo, rfl, hlc⟩ := HL24.out (by omega)
      obtain ⟨u, hu⟩ : ∃ u, u = nl - 1 - d := ⟨_, rfl⟩
      have hue : ((nl : Int) - 1 - d) = (u : Int) := by omega
      obtain ⟨k0, k1⟩ := hlc u (by omega)
      have hlb : lb < w4.heap.size := World.block_lt_of_cell? _ _ k0
      have hne : bm ≠ lb := by omega
      have hlbr : lb < wr.heap.size := by have := hg.size; omega
      have hbmr : bm < wr.heap.size := hR.lt
      have hv := twice_lo (d := ((0 : Int), (0 : Int))) (l := vs) hlt
      rw [← hu] at hv
      obtain ⟨x, y, hxy⟩ : ∃ x y, vs.getD u (0, 0) = (x, y) := ⟨_, _, rfl⟩
      rw [hxy] at k0 k1 hv
      simp only at k0 k1 hv
      have HXY : Hid ((twice (0, 0) vs nl).getD d (0, 0) = (y, x)) := hv
      have c0 := hg.cell k0 (by simp)
      have c1 := hg.cell k1 (by simp)
      obtain ⟨y0, hy0⟩ := hR.any (i := d * 2) (by omega)
      obtain ⟨y1, hy1⟩ := hR.any (i := d * 2 + 1) (by omega)
      have f0 := hR.frozen (d * 2)
      have f1 := hR.frozen (d * 2 + 1)
      have HU : Hid (u = nl - 1 - d) := hu
      have HDg : Hid (d + gk = nl) := hd
      clear k0 k1 hv hxy hlc hg hR hd
      rw [hue]
      clear hue hu
      have hul : u < nl := by have := HU.out; omega
      go_wp2_with fail
      go_region
      go_wp2_with fail
      go_roundg (gk - 1)
      case measure => have := HDg.out; omega
      case rel =>
        refine ⟨d + 1, by have := HDg.out; omega, ?_, rfl, ?_, ?_⟩
        · have := HU.out
          congr 1
          omega
        · exact grown_drew (grown_trans (grown_then (grown_then HG.out (grown_set _ _ _) (fun j e => by cases e; exact .inl hbm2)) (grown_set _ _ _) (fun j e => by cases e; exact .inl hbm2)) (World.grownBy_alloc _ _ _))
        · exact ((HR.out.push (by omega) HXY.out).grown (World.grownBy_alloc _ _ none) (by simp)).drew
    · obtain rfl : nl = d := by omega
      clear hg hR hd
      go_wp2_with fail
      have hbmr := HR.out.lt
      go_loopg [15, 17] nl (fun t vl v wr => ∃ k : Nat, k + t = nl ∧ v = .int .i64 k ∧ vl = .slice (some ⟨bm, 0, none⟩) (nl + k) (2 * nl) ∧ w4.grownBy wr none ∧ RowL wr bm (twice (0, 0) vs nl) (nl + k) (2 * nl))
      case atStart => exact ⟨0, by omega, rfl, rfl, HG.out, HR.out⟩
      case round =>
        clear HG HR hbmr
        obtain ⟨k, hk, rfl, rfl, hg, hR⟩ := hrel
        have HG : Hid (w4.grownBy wr none) := hg
        have HR : Hid (RowL wr bm (twice (0, 0) vs nl) (nl + k) (2 * nl)) := hR
        by_cases hlt : k < nl
--BEGIN A
        · obtain ⟨lb, lo, rfl, hlc⟩ := HL24.out (by omega)
          obtain ⟨k0, k1⟩ := hlc k (by omega)
          have hlb : lb < w4.heap.size := World.block_lt_of_cell? _ _ k0
          have hne : bm ≠ lb := by omega
          have hlbr : lb < wr.heap.size := by have := hg.size; omega
          have hbmr : bm < wr.heap.size := hR.lt
          have hv := twice_hi (d := ((0 : Int), (0 : Int))) (l := vs) hlt
          obtain ⟨x, y, hxy⟩ : ∃ x y, vs.getD k (0, 0) = (x, y) := ⟨_, _, rfl⟩
          rw [hxy] at k0 k1 hv
          simp only at k0 k1
          have HXY : Hid ((twice (0, 0) vs nl).getD (nl + k) (0, 0) = (x, y)) := hv
          have c0 := hg.cell k0 (by simp)
          have c1 := hg.cell k1 (by simp)
          obtain ⟨y0, hy0⟩ := hR.any (i := (nl + k) * 2) (by omega)
          obtain ⟨y1, hy1⟩ := hR.any (i := (nl + k) * 2 + 1) (by omega)
          have f0 := hR.frozen ((nl + k) * 2)
          have f1 := hR.frozen ((nl + k) * 2 + 1)
          have HKg : Hid (k + gk = nl) := hk
          clear k0 k1 hv hxy hlc hg hR hk
          obtain ⟨d, hd⟩ : ∃ d, d = nl + k := ⟨_, rfl⟩
          rw [← hd] at hy0 hy1 f0 f1 HXY HR ⊢
          have HDd : Hid (d = nl + k) := hd
          have hd2 : d < 2 * nl := by omega
          clear hd
          go_wp2_with fail
          go_region
          go_wp2_with fail
          go_roundg (gk - 1)
          case measure => have := HKg.out; omega
          case rel =>
            have hd := HDd.out
            refine ⟨k + 1, by have := HKg.out; omega, by go_num, by rw [hd]; rfl, ?_, ?_⟩
            · exact grown_drew (grown_trans (grown_then (grown_then HG.out (grown_set _ _ _) (fun j e => by cases e; exact .inl hbm2)) (grown_set _ _ _) (fun j e => by cases e; exact .inl hbm2)) (World.grownBy_alloc _ _ _))
            · have := ((HR.out.push (by omega) HXY.out).grown (World.grownBy_alloc _ (.cells #[.int .u64 x, .int .u64 y] 47) none) (by simp)).drew
              rw [hd] at this ⊢
              exact this
--END A
        · obtain rfl : nl = k := by omega
          rw [show nl + nl = 2 * nl by omega] at HR hR ⊢
          clear hg hR hk hbm2
          go_wp2_with fail
          have hgr2 : w2.grownBy wr none := grown_trans Hg4.out HG.out
          have HGR2 : Hid (w2.grownBy wr none) := hgr2
          have HLr : Hid (LnkIn wr p4 nl vs) := HL4.out.grown HG.out
          have HLm : Hid (LnkIn wr (some ⟨bm, 0, none⟩) (2 * nl) (twice (0, 0) vs nl)) := HR.out.lnk
          have HXr : Hid (IntsIn .u64 wr a n xs) := Hx2.out.grown hgr2
          have HRo : Hid (Row3 wr be (endF ls) (2 * nl) (2 * nl)) := HRow.out.grown hgr2 (by simp)
          clear hgr2 HG HR HL24 HL4 Hg4 HRow HL2 Hx2 HLN HX HPL
          refine (clone_any a n ca xs wr (by omega) HXr.out HL.out HP.out).mono ?_
          rintro e w7 ⟨p7, rfl, hx7, hg7⟩
          have Hx7 : Hid (IntsIn .u64 w7 p7 n xs) := hx7
          have Hg7 : Hid (wr.grownBy w7 none) := hg7
          clear hx7 hg7
          go_wp2_with fail
          refine (zz_links p7 p4 n n nl nl c s1 s2 xs ls w7 (by omega) (by omega) (Nat.le_refl _) (by omega) hc2 hcm H1.out H2.out Hx7.out (asc_of_B HAS.out) (lks_of (HLr.out.grown Hg7.out) HE.out) HE.out.bd).mono ?_
          rintro e w8 ⟨bs, bv, bt, S, Es, rfl, hM, hO⟩
          have HM : Hid (Made w7 w8 p7 n c (vroom c n).toNat bs bv bt (fun j => Es.getD j [])) := hM
          have HO : Hid (LRun ls nl c (stOf s1 s2) n S Es) := hO
          have hg78 : wr.grownBy w8 none := grown_trans Hg7.out hM.2.2.2.2.2
          have Hg78 : Hid (wr.grownBy w8 none) := hg78
          clear hM hO hg78
          go_wp2_with fail
          refine (clone_any a n ca xs w8 (by omega) (HXr.out.grown Hg78.out) HL.out HP.out).mono ?_
          rintro e w9 ⟨p9, rfl, hx9, hg9⟩
          have Hx9 : Hid (IntsIn .u64 w9 p9 n xs) := hx9
          have Hg9 : Hid (w8.grownBy w9 none) := hg9
          clear hx9 hg9
          go_wp2_with fail
          refine (zz_links p9 (some ⟨bm, 0, none⟩) n n (2 * nl) (2 * nl) c s1 s2 xs (twice (0, 0) ls nl) w9 (by omega) (by omega) (Nat.le_refl _) (by omega) hc2 hcm H1.out H2.out Hx9.out (asc_of_B HAS.out) (lks_of ((HLm.out.grown Hg78.out).grown Hg9.out) HE.out.twice) HE.out.twice.bd).mono ?_
          rintro e w10 ⟨bs', bv', bt', S', Es', rfl, hM', hO'⟩
          obtain ⟨rfl, rfl⟩ := LRun.det (fun i j => nbr_twice ls nl i j) HO.out hO'
          have HM' : Hid (Made w9 w10 p9 n c (vroom c n).toNat bs' bv' bt' (fun j => Es.getD j [])) := hM'
          have Hg910 : Hid (w8.grownBy w10 none) := grown_trans Hg9.out hM'.2.2.2.2.2
          clear hM' hO'
          go_wp2_with fail
          refine (views_any p7 n c bs bv w10 (HM.out.1.grown Hg910.out (by simp))).mono ?_
          rintro e w11 ⟨rfl, hw⟩
          have hw' := hw.symm
          subst hw'
          go_wp2_with fail
          refine (views_any p9 n c bs' bv' w10 HM'.out.1).mono ?_
          rintro e w11 ⟨rfl, hw⟩
          have hw' := hw.symm
          subst hw'
          have hmk3 := mk43 n (by omega) w10
          have HB10 : Hid (Below w.heap.size w w10) := by
            have g1 := below_of_grown HGR2.out
            have g2 := below_of_grown Hg78.out
            have g3 := below_of_grown Hg910.out
            have z1 := g1.size
            have z2 := g2.size
            exact HB2.out.trans ((g1.mono hz2).trans ((g2.mono (by omega)).trans (g3.mono (by omega))))
          have HT : Hid (Duo w10 n c (vroom c n).toNat be bv bt bv' bt' nl ls Es) :=
            ⟨HM.out.2.2.2.2.1.grows Hg910.out (by simp) (by simp), HM'.out.2.2.2.2.1, (HRo.out.grown Hg78.out (by simp)).grown Hg910.out (by simp), HO.out.good.2, HE.out.bd⟩
          clear HM HM' HO Hg910 Hg9 Hx9 Hg78 Hg7 Hx7 HGR2 HLr HLm HXr HRo HB2 HE HL HP HAS H1 H2
          generalize (vroom c n).toNat = rm at HT
          go_wp2_with fail
          have hbl : Blk (w10.alloc (.cells (bA (fun _ => false) n) 4)) w10.heap.size (bA (fun _ => false) n) 4 := heap_alloc_new w10 _
          have hg6 : w10.grownBy (w10.alloc (.cells (bA (fun _ => false) n) 4)) none := World.grownBy_alloc _ _ _
          obtain ⟨bl, hble⟩ : ∃ bl, bl = w10.heap.size := ⟨_, rfl⟩
          rw [← hble] at hbl ⊢
          generalize (w10.alloc (.cells (bA (fun _ => false) n) 4)) = w6 at hbl hg6 ⊢
          have HBl : Hid (Blk w6 bl (bA (fun _ => false) n) 4) := hbl
          have Hg6 : Hid (w10.grownBy w6 none) := hg6
          have HBE : Hid (be < w10.heap.size) := HT.out.row.lt
          have HLE : Hid (bl = w10.heap.size) := hble
          clear hbl hg6 hmk3 hble
          go_loopg [23] n (fun t i wr => ∃ (k : Nat) (m : Nat → Bool), k + t = n ∧ i = .int .i64 k ∧ Blk wr bl (bA m n) 4 ∧ w10.grownBy wr none)
          case atStart => exact ⟨0, _, by omega, rfl, HBl.out, Hg6.out⟩
          case round =>
            clear HBl Hg6
            obtain ⟨k, m0, hk, rfl, hB, hg⟩ := hrel
            by_cases hlt : k < n
            · have hRw : Row3 wr be (endF ls) (2 * nl) (2 * nl) := HT.out.row.grown hg (by simp)
              have hMk := mark_any be bl nl n k ls m0 wr (by omega) (by omega) hlt hRw hB (by have h8 := HBE.out; have h9 := HLE.out; omega) HT.out.lks
              have HG : Hid (w10.grownBy wr none) := hg
              obtain ⟨g1, hg1⟩ : ∃ t, t = gk := ⟨_, rfl⟩
              rw [← hg1] at hk
              have HKe : Hid (g1 = gk) := hg1
              have HK : Hid (k + g1 = n) := hk
              clear hRw hB hg hg1 hk
              go_wp2_with fail
              refine hMk.mono ?_
              rintro e w12 ⟨rfl, hB7, hg7⟩
              have hG7 : w10.grownBy w12 none := grown_then HG.out hg7 (fun j e => by cases e; exact .inl (by have := HLE.out; omega))
              have HG7 : Hid (w10.grownBy w12 none) := hG7
              have HB7 : Hid (Blk w12 bl (bA (nbB ls nl k) n) 4) := hB7
              obtain ⟨S1, S2, hNR⟩ := HT.out.run k hlt
              obtain ⟨hEa, hPo, hEl⟩ := hNR.each HT.out.lks hc2
              obtain ⟨⟨a1, a2⟩, a3, _⟩ := HT.out.v1 k hlt
              obtain ⟨⟨b1, b2⟩, b3, _⟩ := HT.out.v2 k hlt
              simp only at a2 b2
              replace a1 := hG7.cell a1 (by simp)
              replace a2 := hG7.cell a2 (by simp)
              replace b1 := hG7.cell b1 (by simp)
              replace b2 := hG7.cell b2 (by simp)
              have a4 : Entries w12 bt (k * rm * 2) (Es.getD k []) := fun t ht => ⟨hG7.cell (a3 t ht).1 (by simp), hG7.cell (a3 t ht).2 (by simp)⟩
              have b4 : Entries w12 bt' (k * rm * 2) (Es.getD k []) := fun t ht => ⟨hG7.cell (b3 t ht).1 (by simp), hG7.cell (b3 t ht).2 (by simp)⟩
              have hDn : cnt (nbB ls nl k) n ≤ n := cnt_le
              generalize Es.getD k [] = es at a2 a4 b2 b4 hEa hPo hEl
              have HA : Hid (Entries w12 bt (k * rm * 2) es) := a4
              have HBn : Hid (Entries w12 bt' (k * rm * 2) es) := b4
              have HEA : Hid (∀ t, t < es.length → ∃ j, j < n ∧ nbB ls nl k j = true ∧ es.getD t 0 = (j : Int)) := hEa
              clear hMk hB7 hg7 hG7 a3 a4 b3 b4 hNR HG hEa
              generalize cnt (nbB ls nl k) n = D at hPo hDn
              by_cases hL0 : es.length = 0
              · rw [hL0] at a2 b2
                obtain rfl : D = 0 := by omega
                go_wp2_with fail
                go_loopg [27] 0 (fun t v wx => v = .int .i64 0 ∧ wx = w12)
                case atStart => exact ⟨rfl, rfl⟩
                case round =>
                  clear a1 a2 b1 b2
                  obtain ⟨rfl, hw⟩ := hrel
                  subst hw
                  go_wp2_with fail
                  go_roundg (g1 - 1)
                  case measure =>
                    have h9 := HK.out
                    have h8 := HKe.out
                    omega
                  case rel => exact ⟨k + 1, _, by have := HK.out; omega, by go_num, HB7.out, HG7.out⟩
              · have hD0 : 0 < D := by omega
                clear hPo
                generalize hLe : es.length = L at a2 b2 hEl hL0
                have HEL : Hid (es.length = L) := hLe
                have hLp : 0 < L := by omega
                clear hLe hL0
                go_wp2_with fail
                go_loopg [27] L (fun t v wx => ∃ i q : Nat, i + t = L ∧ v = .int .i64 i ∧ wx = w12.drewN q)
                case atStart => exact ⟨0, 0, by omega, rfl, rfl⟩
                case round =>
                  clear a1 a2 b1 b2
                  obtain ⟨i, q, hi, rfl, rfl⟩ := hrel
                  have HI : Hid (i + gk = L) := hi
                  clear hi
                  by_cases hiL : i < L
                  · obtain ⟨c1, c2⟩ := HA.out i (by rw [HEL.out]; exact hiL)
                    obtain ⟨d1, d2⟩ := HBn.out i (by rw [HEL.out]; exact hiL)
                    obtain ⟨j, hjn, hjb, hje⟩ := HEA.out i (by rw [HEL.out]; exact hiL)
                    rw [hje] at c1 d1
                    have cb : w12.cell? ⟨bl, j, none⟩ = some (.bool true) := by rw [HB7.out.cell, bA_get hjn, hjb]
                    have x1' : decide (n ≤ j) = false := by simp; omega
                    clear hje hjb
                    go_wp2_with fail
                    go_big_quiet (fail)
                    go_wp2_with fail
                    go_roundg (gk - 1)
                    case measure => have := HI.out; omega
                    case rel => exact ⟨i + 1, _, by have := HI.out; omega, by go_num, rfl⟩
                  · go_wp2_with fail
                    go_roundg (g1 - 1)
                    case measure =>
                      have h9 := HK.out
                      have h8 := HKe.out
                      omega
                    case rel => exact ⟨k + 1, _, by have := HK.out; omega, by go_num, HB7.out, grown_trans HG7.out ⟨rfl, rfl, rfl, Nat.le_refl _, fun _ _ _ => rfl⟩⟩
            · go_wp2_with fail
              go_ret
              exact ⟨rfl, HB10.out.trans ((below_of_grown hg).mono HB10.out.size)⟩
end Go.Proofs.Qxb6614822aFmt
