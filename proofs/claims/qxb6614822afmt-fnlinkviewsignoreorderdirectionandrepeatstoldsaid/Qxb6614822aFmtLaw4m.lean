import Derived.Test.Qxb6614822aFmtLaw4
import Derived.BigQuiet
import Derived.Deep.QuietTactic
namespace Go.Proofs.Qxb6614822aFmt
open Go.RowKit Pcg

theorem mk43 (n : Nat) (hn : n ≤ 1000000) (w : World) : (Instr.makeSlice 43 (.int .i64 (n : Int)) (.int .i64 (n : Int))).run Tryf.prog w = .ok (.slice (some ⟨w.heap.size, 0, none⟩) n n) (w.alloc (.cells (bA (fun _ => false) n) 4)) := by
  obtain ⟨i0, hi, hz0, hz1, hz2⟩ := info_parts info4
  have := run_make (P := Tryf.prog) w 43 4 i0 _ Tryf.underlying43 hi hz0 .i64 .i64 n n (by omega) (by omega) (by rw [hz2]; omega) (by omega)
  rw [hz1, Nat.mul_one] at this
  simp only [Int.toNat_natCast] at this
  rw [this]
  have e : madeCells (Value.bool false).cells n = bA (fun _ => false) n := by
    unfold bA madeCells
    apply Array.ext
    · simp
    · intro i h1 h2
      simp [Nat.mod_one, Value.cells]
  rw [e]

/-- what the law's loops lean on -/
structure One (w5 : World) (n c rm be bv bt nl : Nat) (ls : List (Nat × Nat)) (Es : List (List Int)) : Prop where
  v1 : VS w5 bv bt rm n (fun j => Es.getD j [])
  row : Row3 w5 be (endF ls) (2 * nl) (2 * nl)
  run : ∀ k, k < n → ∃ S1 S2, NRun ls nl c k S1 (Es.getD k []) S2
  lks : Lks ls nl n
theorem One.grows {w6 w7 : World} {n c rm be bv bt nl : Nat} {ls : List (Nat × Nat)} {Es : List (List Int)} (h : One w6 n c rm be bv bt nl ls Es) (hg : w6.grownBy w7 none) : One w7 n c rm be bv bt nl ls Es :=
  ⟨h.v1.grows hg (by simp) (by simp), h.row.grown hg (by simp), h.run, h.lks⟩

set_option maxRecDepth 20000 in
set_option maxHeartbeats 4000000 in
theorem s4_main (a aL : Option Addr) (n ca nl cl c : Nat) (xs : List Int) (vs : List (Int × Int)) (s1 s2 : Int) (w : World) (hn : n ≤ 512) (hnl : nl ≤ 4096) (hx : IntsIn .u64 w a n xs) (hl : xs.length = n) (hp : a = none → n = 0 ∧ ca = 0)
    (hL : LnkIn w aL nl vs) (hpL : aL = none → nl = 0 ∧ cl = 0) (hasc : ascB xs n = true) (hc2 : 2 ≤ c) (hcm : c ≤ 9223372036854775807) (hev : c % 2 = 0) (h1 : Word s1) (h2 : Word s2) :
    Calls Tryf.prog 4 #[.slice a n ca, .slice aL nl cl, .int .i64 c, .int .u64 s1, .int .u64 s2] w
      fun e w' => e = .returned (.bool true) ∧ Below w.heap.size w w' := by
  have hA := asc_any a n ca xs w (by omega) hx
  rw [hasc] at hA
  have hev' : ((c : Int) % 2 != 0) = false := by simp; omega
  have HX : Hid (IntsIn .u64 w a n xs) := hx
  have HP : Hid (a = none → n = 0 ∧ ca = 0) := hp
  have HL : Hid (xs.length = n) := hl
  have HLN : Hid (LnkIn w aL nl vs) := hL
  have HPL : Hid (aL = none → nl = 0 ∧ cl = 0) := hpL
  have HAS : Hid (ascB xs n = true) := hasc
  have H1 : Hid (Word s1) := h1
  have H2 : Hid (Word s2) := h2
  clear hx hasc hev hp hl h1 h2 hL hpL
  go_enter Tryf.func4, Tryf.ntmps4
  go_wp2_with (first | (go_at_call 9; refine hA.mono ?_; rintro e w' ⟨rfl, q, rfl⟩) | (go_at_call 13; go_in) | fail)
  clear hA
  have hx1 : IntsIn .u64 (w.drewN q) a n xs := HX.out
  have hL1 : LnkIn (w.drewN q) aL nl vs := HLN.out
  refine (ends_any a aL n ca nl cl xs vs (w.drewN q) (by omega) (by omega) hx1 hL1).mono ?_
  rintro e w2 ⟨hr, hg2⟩
  have HB2 : Hid (Below w.heap.size w w2) := (below_drewN2 (Below.refl _ _) q).trans ((below_of_grown hg2).mono (Nat.le_refl _))
  rcases hr with rfl | ⟨be, ls, rfl, hbe, hRow, hE⟩
  · go_wp2_with fail
    go_ret
    exact ⟨rfl, HB2.out⟩
  have Hx2 : Hid (IntsIn .u64 w2 a n xs) := hx1.grown hg2
  have HL2 : Hid (LnkIn w2 aL nl vs) := hL1.grown hg2
  have HRow : Hid (Row3 w2 be (endF ls) (2 * nl) (2 * nl)) := hRow
  have HE : Hid (Ends ls nl n xs vs) := hE
  have hz2 : w.heap.size ≤ w2.heap.size := HB2.out.size
  clear hx1 hL1 hg2 hRow hE hbe
  go_wp2_with fail
  refine (clone_any a n ca xs w2 (by omega) Hx2.out HL.out HP.out).mono ?_
  rintro e w3 ⟨p3, rfl, hx3, hg3⟩
  have Hx3 : Hid (IntsIn .u64 w3 p3 n xs) := hx3
  have Hg3 : Hid (w2.grownBy w3 none) := hg3
  clear hx3 hg3
  go_wp2_with fail
  refine (sim_any aL nl cl vs w3 (by omega) (HL2.out.grown Hg3.out) HPL.out).mono ?_
  rintro e w4 ⟨p4, rfl, hL4, hg4⟩
  have HL4 : Hid (LnkIn w4 p4 nl vs) := hL4
  have Hg4 : Hid (w3.grownBy w4 none) := hg4
  clear hL4 hg4
  go_wp2_with fail
  refine (zz_links p3 p4 n n nl nl c s1 s2 xs ls w4 (by omega) (by omega) (Nat.le_refl _) (by omega) hc2 hcm H1.out H2.out (Hx3.out.grown Hg4.out) (asc_of_B HAS.out) (lks_of HL4.out HE.out) HE.out.bd).mono ?_
  rintro e w5 ⟨bs, bv, bt, S, Es, rfl, hM, hO⟩
  have HM : Hid (Made w4 w5 p3 n c (vroom c n).toNat bs bv bt (fun j => Es.getD j [])) := hM
  have HO : Hid (LRun ls nl c (stOf s1 s2) n S Es) := hO
  clear hM hO
  go_wp2_with fail
  refine (views_any p3 n c bs bv w5 HM.out.1).mono ?_
  rintro e w6 ⟨rfl, hw6⟩
  have hw6' := hw6.symm
  subst hw6'
  have hmk := mk43 n (by omega) w5
  go_wp2_with fail
  have hbl : Blk (w5.alloc (.cells (bA (fun _ => false) n) 4)) w5.heap.size (bA (fun _ => false) n) 4 := heap_alloc_new w5 _
  have hg6 : w5.grownBy (w5.alloc (.cells (bA (fun _ => false) n) 4)) none := World.grownBy_alloc _ _ _
  have HB5 : Hid (Below w.heap.size w w5) := by
    have g3 := below_of_grown Hg3.out
    have g4 := below_of_grown Hg4.out
    have g5 := below_of_grown HM.out.2.2.2.2.2
    have z3 := g3.size
    have z4 := g4.size
    exact HB2.out.trans ((g3.mono hz2).trans ((g4.mono (by omega)).trans (g5.mono (by omega))))
  have HT : Hid (One w5 n c (vroom c n).toNat be bv bt nl ls Es) :=
    ⟨HM.out.2.2.2.2.1, ((HRow.out.grown Hg3.out (by simp)).grown Hg4.out (by simp)).grown HM.out.2.2.2.2.2 (by simp), HO.out.good.2, HE.out.bd⟩
  generalize (vroom c n).toNat = rm at HT
  obtain ⟨bl, hble⟩ : ∃ bl, bl = w5.heap.size := ⟨_, rfl⟩
  rw [← hble] at hbl ⊢
  generalize (w5.alloc (.cells (bA (fun _ => false) n) 4)) = w6 at hbl hg6 ⊢
  have HBl : Hid (Blk w6 bl (bA (fun _ => false) n) 4) := hbl
  have Hg6 : Hid (w5.grownBy w6 none) := hg6
  have HBE : Hid (be < w5.heap.size) := HT.out.row.lt
  have HLE : Hid (bl = w5.heap.size) := hble
  clear hbl hg6 hmk HM HO Hg3 Hg4 Hx3 HL4 HX HP HL HLN HPL HAS H1 H2 HB2 Hx2 HL2 HRow HE hble hz2
  go_loopg [17] n (fun t i wr => ∃ (k : Nat) (m : Nat → Bool), k + t = n ∧ i = .int .i64 k ∧ Blk wr bl (bA m n) 4 ∧ w5.grownBy wr none)
  case atStart => exact ⟨0, _, by omega, rfl, HBl.out, Hg6.out⟩
  case round =>
    clear HBl Hg6
    obtain ⟨k, m0, hk, rfl, hB, hg⟩ := hrel
    by_cases hlt : k < n
    · have hT := HT.out.grows hg
      have hMk := mark_any be bl nl n k ls m0 wr (by omega) (by omega) hlt hT.row hB (by have h8 := HBE.out; have h9 := HLE.out; omega) hT.lks
      have HG : Hid (w5.grownBy wr none) := hg
      obtain ⟨g1, hg1⟩ : ∃ t, t = gk := ⟨_, rfl⟩
      rw [← hg1] at hk
      have HKe : Hid (g1 = gk) := hg1
      have HK : Hid (k + g1 = n) := hk
      clear hT hB hg hg1 hk
      go_wp2_with fail
      refine hMk.mono ?_
      rintro e w7 ⟨rfl, hB7, hg7⟩
      have hG7 : w5.grownBy w7 none := grown_then HG.out hg7 (fun j e => by cases e; exact .inl (by have := HLE.out; omega))
      have HG7 : Hid (w5.grownBy w7 none) := hG7
      have HB7 : Hid (Blk w7 bl (bA (nbB ls nl k) n) 4) := hB7
      obtain ⟨S1, S2, hNR⟩ := HT.out.run k hlt
      obtain ⟨⟨a1, a2⟩, a3, _⟩ := HT.out.v1 k hlt
      simp only at a2
      replace a1 := hG7.cell a1 (by simp)
      replace a2 := hG7.cell a2 (by simp)
      have a4 : Entries w7 bt (k * rm * 2) (Es.getD k []) := fun t ht => ⟨hG7.cell (a3 t ht).1 (by simp), hG7.cell (a3 t ht).2 (by simp)⟩
      have hv := hNR.view HT.out.lks
      have hDn : cnt (nbB ls nl k) n ≤ n := cnt_le
      have hbt5 : 0 < (Es.getD k []).length → bt < w5.heap.size := fun h => World.block_lt_of_cell? _ _ (a3 0 h).1
      generalize Es.getD k [] = es at a2 a4 hv hbt5
      have HBT : Hid (0 < es.length → bt < w5.heap.size) := hbt5
      have HA : Hid (Entries w7 bt (k * rm * 2) es) := a4
      clear hMk hB7 hg7 hG7 a3 a4 hNR HG hbt5
      rcases hv with hw | ⟨hcD, hel, nd, hnd, hne⟩
      · obtain ⟨hDc, hel, hat⟩ := hw
        rw [hel] at a2
        have HEL : Hid (es.length = cnt (nbB ls nl k) n) := hel
        have HAT : Hid (∀ j, j < n → nbB ls nl k j = true → cnt (nbB ls nl k) j < cnt (nbB ls nl k) n ∧ es.getD (cnt (nbB ls nl k) j) 0 = (j : Int)) := hat
        clear hel hat
        generalize hD : cnt (nbB ls nl k) n = D at a2 hDc hDn HEL HAT
        have HD : Hid (cnt (nbB ls nl k) n = D) := hD
        clear hD
        go_wp2_with fail
        go_loopg [20, 21] n (fun t vk vj wx => ∃ j : Nat, j + t = n ∧ vj = .int .i64 j ∧ vk = .int .i64 (cnt (nbB ls nl k) j : Nat) ∧ wx = w7)
        case atStart => exact ⟨0, by omega, rfl, rfl, rfl⟩
        case round =>
          obtain ⟨j, hj, rfl, rfl, hw⟩ := hrel
          subst hw
          clear a1 a2
          have HJ : Hid (j + gk = n) := hj
          clear hj
          by_cases hjn : j < n
          · have cb : wr.cell? ⟨bl, j, none⟩ = some (.bool (nbB ls nl k j)) := by rw [HB7.out.cell, bA_get hjn]
            have hce : cnt (nbB ls nl k) (j + 1) = cnt (nbB ls nl k) j + if nbB ls nl k j then 1 else 0 := rfl
            have hcj : cnt (nbB ls nl k) j ≤ j := cnt_le
            cases hb : nbB ls nl k j with
            | true =>
              rw [hb] at cb hce
              obtain ⟨t1, t2⟩ := HAT.out j hjn hb
              obtain ⟨c1, c2⟩ := HA.out _ (show cnt (nbB ls nl k) j < es.length by rw [HEL.out]; exact t1)
              rw [t2] at c1
              simp only [if_true] at hce
              generalize hq : cnt (nbB ls nl k) j = q at c1 c2 t1 hce hcj
              have HCE : Hid (cnt (nbB ls nl k) (j + 1) = q + 1) := hce
              clear hq hce hb t2
              go_wp2_with fail
              go_roundg (gk - 1)
              case measure => have := HJ.out; omega
              case rel => exact ⟨j + 1, by have := HJ.out; omega, by go_num, by rw [HCE.out]; go_num, rfl⟩
            | false =>
              rw [hb] at cb hce
              simp only [Bool.false_eq_true, if_false, Nat.add_zero] at hce
              generalize hq : cnt (nbB ls nl k) j = q at hce hcj
              have HCE : Hid (cnt (nbB ls nl k) (j + 1) = q) := hce
              clear hq hce hb
              go_wp2_with fail
              go_roundg (gk - 1)
              case measure => have := HJ.out; omega
              case rel => exact ⟨j + 1, by have := HJ.out; omega, by go_num, by rw [HCE.out], rfl⟩
          · generalize cnt (nbB ls nl k) j = q
            go_wp2_with fail
            go_roundg (g1 - 1)
            case measure =>
              have h9 := HK.out
              have h8 := HKe.out
              omega
            case rel => exact ⟨k + 1, _, by have := HK.out; omega, by go_num, HB7.out, HG7.out⟩
      · rw [hel] at a2
        have HEL : Hid (es.length = c) := hel
        have HND : Hid (∀ t, t < c → es.getD t 0 = (nd t : Int) ∧ nd t < n ∧ nbB ls nl k (nd t) = true) := hnd
        have HNE : Hid (∀ s t, s < t → t < c → nd s ≠ nd t) := hne
        clear hel hnd hne
        generalize hD : cnt (nbB ls nl k) n = D at hcD hDn
        clear hD
        go_wp2_with fail
        simp only [show decide (D ≤ c) = false from decide_eq_false (by omega)]
        go_loopg [22] c (fun t v wx => ∃ (i : Nat) (mk : Nat → Bool), i + t = c ∧ v = .int .i64 i ∧ Blk wx bl (bA mk n) 4 ∧ w7.grownBy wx (some bl) ∧ ∀ t, i ≤ t → t < c → mk (nd t) = true)
        case atStart => exact ⟨0, _, by omega, rfl, HB7.out, grown_refl _ _, fun t _ ht => (HND.out t ht).2.2⟩
        case round =>
          clear HB7 a1 a2
          obtain ⟨i, mk, hi, rfl, hB, hg, hmk⟩ := hrel
          have HI : Hid (i + gk = c) := hi
          have HB : Hid (Blk wr bl (bA mk n) 4) := hB
          have HG : Hid (w7.grownBy wr (some bl)) := hg
          have HMK : Hid (∀ t, i ≤ t → t < c → mk (nd t) = true) := hmk
          clear hi
          by_cases hic : i < c
          · obtain ⟨x0, x1, x2⟩ := HND.out i hic
            obtain ⟨c1, c2⟩ := HA.out i (by rw [HEL.out]; exact hic)
            have hbt : bt ≠ bl := by
              have h8 := HBT.out (by rw [HEL.out]; omega)
              have h9 := HLE.out
              omega
            have cb : wr.cell? ⟨bl, nd i, none⟩ = some (.bool true) := by rw [hB.cell, bA_get x1, hmk i (Nat.le_refl _) hic]
            have fb := hB.frozen (nd i)
            rw [x0] at c1
            replace c1 := hg.cell c1 (fun e => hbt (Option.some.inj e))
            replace c2 := hg.cell c2 (fun e => hbt (Option.some.inj e))
            generalize hx : nd i = x at c1 x1 cb fb
            have HXe : Hid (nd i = x) := hx
            have x1' : decide ((n : Int) ≤ (x : Int)) = false := by simp; omega
            clear hB hg hmk hx x0 x2
            go_wp2_with fail
            go_roundg (gk - 1)
            case measure => have := HI.out; omega
            case rel =>
              refine ⟨i + 1, bset mk x false, by have := HI.out; omega, by go_num, blk_bset HB.out x false, grown_trans HG.out (grown_set _ _ _), fun t t1 t2 => ?_⟩
              unfold bset
              rw [if_neg (by rw [← HXe.out]; exact Ne.symm (HNE.out i t (by omega) t2))]
              exact HMK.out t (by omega) t2
          · clear hB hg hmk
            go_wp2_with fail
            go_roundg (g1 - 1)
            case measure =>
              have h9 := HK.out
              have h8 := HKe.out
              omega
            case rel => exact ⟨k + 1, _, by have := HK.out; omega, by go_num, HB.out, grown_then HG7.out HG.out (fun j e => by cases e; exact .inl (by have := HLE.out; omega))⟩
    · go_wp2_with fail
      go_ret
      exact ⟨rfl, HB5.out.trans ((below_of_grown hg).mono HB5.out.size)⟩
end Go.Proofs.Qxb6614822aFmt
