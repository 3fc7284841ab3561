import Derived.Test.Qxb6614822aFmtSrt7
import Derived.Test.Qxb6614822aFmtShelf2
import Derived.Lib.ItoaNum
namespace Go.Proofs.Qxb6614822aFmt
open Go.RowKit Go.Sort

theorem word_bits (op : BinOp) (x y : Int) : Word (bits op .u64 x y) := word_wrap _

theorem and_le (x y : Int) (h0 : 0 ≤ y) (h1 : y < 18446744073709551616) : 0 ≤ bits .and .u64 x y ∧ bits .and .u64 x y ≤ y := by
  have hw := word_bits .and x y
  refine ⟨hw.1, ?_⟩
  have hy : (BitVec.ofInt 64 y).toNat = y.toNat := by
    rw [BitVec.toNat_ofInt]
    congr 1
    exact Int.emod_eq_of_lt h0 h1
  have hle : (BitVec.ofInt 64 x &&& BitVec.ofInt 64 y).toNat ≤ y.toNat := by rw [BitVec.toNat_and, hy]; exact Nat.and_le_right
  have e : bits .and .u64 x y = IntKind.u64.wrap ((BitVec.ofInt 64 x &&& BitVec.ofInt 64 y).toNat : Int) := rfl
  rw [e]
  generalize (BitVec.ofInt 64 x &&& BitVec.ofInt 64 y).toNat = z at hle
  simp only [IntKind.wrap, IntKind.signed, IntKind.bits]
  simp
  omega

theorem pow_bits (n : Nat) (h1 : 1 ≤ n) (h2 : n ≤ 1000000) : n < 2 ^ Lib.bitLen n ∧ 2 ^ Lib.bitLen n ≤ 2 * n := by
  obtain ⟨a, b, c⟩ := Lib.bitLenAux_bounds 64 n (by omega) (by omega)
  unfold Lib.bitLen
  refine ⟨c, ?_⟩
  generalize Lib.bitLenAux 64 n = L at a b c ⊢
  obtain ⟨k, rfl⟩ : ∃ k, L = k + 1 := ⟨L - 1, by omega⟩
  rw [Nat.add_sub_cancel] at b
  rw [Nat.pow_succ]; omega

theorem ret_u64 {a b : Int} (h : a = b) : Ending.returned (.int .u64 a) = .returned (.int .u64 b) := by rw [h]

set_option maxRecDepth 20000 in
set_option maxHeartbeats 1000000 in
theorem npow_any (n : Nat) {n' : Int} (en : n' = n) (w : World) (h1 : 1 ≤ n) (h2 : n ≤ 1000000) :
    Calls Tryf.prog 99 #[.int .i64 n'] w fun e w' => (∃ m : Int, e = .returned (.int .u64 m) ∧ (n : Int) < m ∧ m ≤ 2 * n) ∧ w' = w := by
  subst en
  have hL := Tryf.bits_Len (n : Int) w (by omega) (by omega)
  rw [Int.toNat_natCast] at hL
  have hp := pow_bits n h1 h2
  have hl64 : Lib.bitLen n ≤ 20 := Lib.bitLen_le n 20 (by omega) (by omega)
  generalize Lib.bitLen n = L at hL hp hl64
  go_enter Tryf.func99, Tryf.ntmps99
  go_wp2_with (first | (go_at_call 64; refine hL.mono ?_; rintro e w' ⟨rfl, rfl⟩) | fail)
  go_ret
  have e : (2 : Int) ^ L = ((2 ^ L : Nat) : Int) := by rw [Int.natCast_pow]; rfl
  have hw : IntKind.u64.wrap ((2 : Int) ^ L) = ((2 ^ L : Nat) : Int) := by
    rw [e]
    generalize 2 ^ L = z at hp
    simp only [IntKind.wrap, IntKind.signed, IntKind.bits]
    simp
    omega
  exact ⟨⟨((2 ^ L : Nat) : Int), ret_u64 hw, by omega, by omega⟩, rfl⟩

theorem blk1_set {w : World} {g t : Nat} {v : Value} (h : Blk w g #[v] t) (y : Int) : Blk (w.setCell ⟨g, 0, none⟩ (.int .u64 y)).drew g #[.int .u64 y] t := by
  have := h.set 0 (.int .u64 y)
  simpa using this.drew

set_option maxRecDepth 20000 in
set_option maxHeartbeats 1000000 in
theorem xor_any (g : Nat) (x : Int) (w : World) (hw : Word x) (hB : Blk w g #[.int .u64 x] 189) :
    Calls Tryf.prog 100 #[.pointer (some ⟨g, 0, none⟩)] w fun e w' => ∃ y : Int, e = .returned (.int .u64 y) ∧ Word y ∧ Blk w' g #[.int .u64 y] 189 ∧ w.grownBy w' (some g) := by
  have c0 : w.cell? ⟨g, 0, none⟩ = some (.int .u64 x) := hB.cell 0
  have f0 : w.frozen? ⟨g, 0, none⟩ = false := hB.frozen 0
  obtain ⟨hw0, hw1⟩ := hw
  have HB : Hid (Blk w g #[.int .u64 x] 189) := hB
  clear hB
  go_enter Tryf.func100, Tryf.ntmps100
  go_wp2
  go_region
  go_wp2
  generalize hx1 : bits BinOp.xor IntKind.u64 x (IntKind.u64.wrap (x * 8192)) = x1
  have hw1' : Word x1 := by rw [← hx1]; exact word_bits _ _ _
  obtain ⟨hp0, hp1⟩ := hw1'
  have HB1 : Hid (Blk (w.setCell ⟨g, 0, none⟩ (.int .u64 x1)).drew g #[.int .u64 x1] 189) := blk1_set HB.out x1
  have HG1 : Hid (w.grownBy (w.setCell ⟨g, 0, none⟩ (.int .u64 x1)).drew (some g)) := grown_drew (grown_set _ _ _)
  clear hx1 HB c0 f0
  generalize (w.setCell ⟨g, 0, none⟩ (.int .u64 x1)).drew = w1 at HB1 HG1 ⊢
  have c1 : w1.cell? ⟨g, 0, none⟩ = some (.int .u64 x1) := HB1.out.cell 0
  have f1 : w1.frozen? ⟨g, 0, none⟩ = false := HB1.out.frozen 0
  go_region
  go_wp2
  generalize hx2 : bits BinOp.xor IntKind.u64 x1 (x1 / 128) = x2
  have hw2' : Word x2 := by rw [← hx2]; exact word_bits _ _ _
  obtain ⟨hq0, hq1⟩ := hw2'
  have HB2 : Hid (Blk (w1.setCell ⟨g, 0, none⟩ (.int .u64 x2)).drew g #[.int .u64 x2] 189) := blk1_set HB1.out x2
  have HG2 : Hid (w.grownBy (w1.setCell ⟨g, 0, none⟩ (.int .u64 x2)).drew (some g)) := grown_drew (grown_trans HG1.out (grown_set _ _ _))
  clear hx2 HB1 HG1 c1 f1
  generalize (w1.setCell ⟨g, 0, none⟩ (.int .u64 x2)).drew = w2 at HB2 HG2 ⊢
  have c2 : w2.cell? ⟨g, 0, none⟩ = some (.int .u64 x2) := HB2.out.cell 0
  have f2 : w2.frozen? ⟨g, 0, none⟩ = false := HB2.out.frozen 0
  go_region
  generalize hx3 : bits BinOp.xor IntKind.u64 x2 (IntKind.u64.wrap (x2 * 131072)) = x3
  have hw3' : Word x3 := by rw [← hx3]; exact word_bits _ _ _
  have HB3 : Hid (Blk (w2.setCell ⟨g, 0, none⟩ (.int .u64 x3)).drew g #[.int .u64 x3] 189) := blk1_set HB2.out x3
  have HG3 : Hid (w.grownBy (w2.setCell ⟨g, 0, none⟩ (.int .u64 x3)).drew (some g)) := grown_drew (grown_trans HG2.out (grown_set _ _ _))
  clear hx3 HB2 HG2 c2 f2
  generalize (w2.setCell ⟨g, 0, none⟩ (.int .u64 x3)).drew = w3 at HB3 HG3 ⊢
  have c3 : w3.cell? ⟨g, 0, none⟩ = some (.int .u64 x3) := HB3.out.cell 0
  go_wp2
  go_ret
  exact ⟨x3, rfl, hw3', HB3.out, HG3.out⟩

set_option maxRecDepth 20000 in
set_option maxHeartbeats 2000000 in
theorem brk_any (w0 : World) (cs : Array Value) (blk off N cap a b : Nat) (d : Array Int) (w : World) (hR : R w0 cs blk off N w d) (hbl : blk < w0.heap.size) (hab : a + 8 ≤ b) (hb : b ≤ N) (hN : N ≤ 1000000) :
    Calls Tryf.prog 80 #[.slice (some ⟨blk, off, none⟩) N cap, .int .i64 a, .int .i64 b] w fun e w' =>
      e = .returned (.tuple #[]) ∧ ∃ d', R w0 cs blk off N w' d' ∧ PermIn a b d d' := by
  have hsz := hR.grown.size
  generalize hl : (b - a) / 4 = l
  have hl4 : 4 * l ≤ b - a := by omega
  have hl5 : 2 ≤ l := by omega
  go_enter Tryf.func80, Tryf.ntmps80
  go_wp2_with fail
  refine (npow_any (b - a) (by omega) _ (by omega) (by omega)).mono ?_
  rintro e w' ⟨⟨m, rfl, hm1, hm2⟩, rfl⟩
  have hR1 : R w0 cs blk off N (w.alloc (.cells #[.int .u64 ((b : Int) - a)] 189)) d := hR.grows (World.grownBy_alloc _ _ none) (by simp) hbl
  have hX1 : Blk (w.alloc (.cells #[.int .u64 ((b : Int) - a)] 189)) w.heap.size #[.int .u64 ((b : Int) - a)] 189 := heap_alloc_new w _
  generalize w.alloc (.cells #[.int .u64 ((b : Int) - a)] 189) = w1 at hR1 hX1 ⊢
  have hs := hR.size
  clear hR
  go_wp2_with fail
  go_loopg [9] 3 (fun t vi wr => ∃ (k : Nat) (z x : Int) (dk : Array Int), vi = .int .i64 z ∧ z = k ∧ k + t = a + 2 * l + 2 ∧ t ≤ 3 ∧ R w0 cs blk off N wr dk ∧ PermIn a b d dk ∧ Blk wr w.heap.size #[.int .u64 x] 189 ∧ Word x)
  case atStart => exact ⟨a + 2 * l - 1, _, _, d, rfl, by omega, by omega, by omega, hR1, permIn_refl _ _ _, hX1, by unfold Word; omega⟩
  case round =>
    clear hR1 hX1
    obtain ⟨k, z, x, dk, rfl, rfl, hk, ht, hR, hP, hX, hW⟩ := hrel
    by_cases hend : gk = 0
    · go_wp2
      go_end0
      exact ⟨rfl, dk, hR, hP⟩
    · have HP : Hid (PermIn a b d dk) := hP
      have HR : Hid (R w0 cs blk off N wr dk) := hR
      have HX := xor_any w.heap.size x wr hW hX
      clear hP hR hX hW
      have hin : (k : Int) ≤ (a : Int) + ((b : Int) - a) / 4 * 2 + 1 := by omega
      go_wp2_with fail
      refine HX.mono ?_
      rintro e w2 ⟨y, rfl, hy, hX2, hg2⟩
      clear HX
      have hR2 : R w0 cs blk off N w2 dk := HR.out.grows hg2 (fun j e => by cases e; exact hsz) hbl
      clear HR hg2
      have hand := and_le y (m - 1) (by omega) (by omega)
      go_upto_if 43 with fail
      generalize bits BinOp.and IntKind.u64 y (m - 1) = o at hand ⊢
      go_cut [10] (fun v wx => ∃ o2 : Nat, v = .int .i64 o2 ∧ o2 < b - a ∧ wx = w2)
      case first =>
        obtain ⟨o, rfl⟩ : ∃ t : Nat, o = t := ⟨o.toNat, by omega⟩
        by_cases hge : b - a ≤ o
        · have hge' : decide ((b : Int) - a ≤ (o : Int)) = true := decide_eq_true (by omega)
          go_wp2_with fail
          go_meet
          case rel => exact ⟨o - (b - a), by congr 1; omega, by omega, rfl⟩
        · have hge' : decide ((b : Int) - a ≤ (o : Int)) = false := decide_eq_false (by omega)
          go_wp2_with fail
          go_meet
          case rel => exact ⟨o, rfl, by omega, rfl⟩
      case rest =>
        obtain ⟨o2, rfl, ho2, rfl⟩ := hcut
        have hs2 := hR2.size
        have hcw := hR2.cell
        have hfw := hR2.frozen
        obtain ⟨G, hG⟩ : ∃ G : Nat → Int, ∀ t, G t = dk[t]! := ⟨fun t => dk[t]!, fun _ => rfl⟩
        simp only [← hG] at hcw
        obtain ⟨v2, hv2⟩ := hR2.alias k (.int .u64 (G (a + o2))) (show a + o2 < N by omega)
        have HR2 : Hid (R w0 cs blk off N wc dk) := hR2
        have HX2 : Hid (Blk wc w.heap.size #[.int .u64 y] 189) := hX2
        have HG : Hid (∀ t, G t = dk[t]!) := hG
        clear hR2 hX2 hG hand hin
        go_wp2_with fail
        go_region
        go_wp2_with fail
        go_roundg (gk - 1)
        case measure => omega
        case rel =>
          refine ⟨k + 1, _, y, swp dk k (a + o2), rfl, by omega, by omega, by omega, ?_, ?_, ?_, hy⟩
          · rw [HG.out, HG.out]
            exact (HR2.out.swap (i := k) (j := a + o2) (by omega) (by omega)).drew 1
          · exact permIn_trans _ _ _ _ _ HP.out (swp_permIn _ _ _ _ _ (by omega) (by omega) (by omega) (by omega) (by omega))
          · have hne : (some blk : Option Nat) ≠ some w.heap.size := fun e => by cases e; omega
            exact ((HX2.out.grown (grown_set _ _ _) hne).grown (grown_set _ _ _) hne).drew
end Go.Proofs.Qxb6614822aFmt
