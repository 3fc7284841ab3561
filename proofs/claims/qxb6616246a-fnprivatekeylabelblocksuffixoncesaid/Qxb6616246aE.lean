import Derived.Test.Qxb6616246aD
import Derived.Laws.Cover3
import Derived.Laws.CopyOwn
import Derived.Deep.OwnRows
namespace Go.Proofs.Qxb6616246a
open Go.RowKit

theorem below_drewN' {B : Nat} {a w : World} (h : Below B a w) (q : Nat) : Below B a (w.drewN q) := ⟨h.os, h.tape, h.output, h.size, h.block⟩

set_option maxRecDepth 20000 in
set_option maxHeartbeats 2000000 in
theorem law_nil (w : World) :
    Calls Try.prog 5 #[.slice none 0 0] w fun e w' => e = .returned (.bool true) ∧ Below w.heap.size w w' := by
  have hb0 : Lib.BytesIn w none 0 (nums []) := Lib.BytesIn.nil _ _ _
  obtain ⟨l, hl0⟩ : ∃ l : List UInt8, l = [] := ⟨_, rfl⟩
  rw [← hl0] at hb0
  have hl : l.length = 0 := by rw [hl0]; rfl
  have hNC : 0 ≤ 0 := Nat.le_refl _
  have hn : 0 ≤ 1048576 := by omega
  clear hl0
  go_enter Try.func5, Try.ntmps5
  go_wp2_with (first | (go_at_call 18; go_in) | fail)
  · skip

    -- the plain call
    refine (zpk_any none 0 0 l w hl hNC (by omega) hb0).mono ?_
    rintro e w1 ⟨rfl, b1⟩
    have hb1 := in_below hb0 b1
    have z1 := b1.size
    go_wp2_with fail
    refine (ab_any none 0 0 (nums l) w1 (by rw [nums_len, hl]) hn hb1).mono ?_
    rintro e w2 ⟨v2, rfl, own2, b2⟩
    rw [nums_bv] at own2
    have z2 := b2.size
    go_wp2_with fail
    refine (as_any w1.heap.size v2 0 _ ⟨#[32, 66, 76, 79, 67, 75]⟩ w2 (by omega) (by decide) z2 own2).mono ?_
    rintro e w3 ⟨v3, rfl, own3, b3⟩
    have own3' : w3.ownsRow w1.heap.size 5 1 v3 6 ((l ++ blk).map bv) := by rw [List.map_append]; exact own3
    obtain ⟨p3, c3, rfl, hl3, hc3, hi3⟩ := owned_in own3'
    have b13 := b2.trans b3
    have z3 := b13.size
    have hb3 := in_below hb1 b13
    clear own2 own3 own3' hb1 b2 b3
    go_wp2_with fail
    refine (zpk_any p3 6 c3 (l ++ blk) w3 hl3 hc3 (by omega) hi3).mono ?_
    rintro e w4 ⟨rfl, b4⟩
    have hb4 := in_below hb3 b4
    have z4 := b4.size
    rw [pk_blk]
    clear hi3 hb3
    have B4 : Below w.heap.size w w4 := b1.trans ((b13.mono z1).trans (b4.mono (by omega)))
    clear b1 b13 b4
    by_cases hp : pk l = true
    · rw [hp, Bool.true_and]
      have hcs := hs_any none 0 0 l w4 hl hNC (by omega) (by omega) hb4
      generalize Lib.hasSuffix l blk = r at hcs ⊢
      cases r
      all_goals
        go_wp2_with fail
        refine hcs.mono ?_
        rintro e w5' ⟨rfl, q, rfl⟩
        have b5 : Below w4.heap.size w4 (w4.drewN q) := below_drewN' (Below.refl _ _) q
        generalize w4.drewN q = w5 at b5 ⊢
        go_wp2_with fail

        have hb5 := in_below hb4 b5
        have z5 := b5.size
        have B5 : Below w.heap.size w w5 := B4.trans (b5.mono (by omega))
        clear hb4 B4 b5
        refine (ab_any none 0 0 (nums l) w5 (by rw [nums_len, hl]) hn hb5).mono ?_
        rintro e w6 ⟨v6, rfl, own6, b6⟩
        rw [nums_bv] at own6
        have z6 := b6.size
        go_wp2_with fail
        refine (as_any w5.heap.size v6 0 _ ⟨#[32, 80, 82, 73, 86, 65, 84, 69, 32, 75, 69, 89]⟩ w6 (by omega) (by decide) z6 own6).mono ?_
        rintro e w7 ⟨v7, rfl, own7, b7⟩
        have own7' : w7.ownsRow w5.heap.size 5 1 v7 12 ((l ++ spk).map bv) := by rw [List.map_append]; exact own7
        obtain ⟨p7, c7, rfl, hl7, hc7, hi7⟩ := owned_in own7'
        have b57 := b6.trans b7
        have z7 := b57.size
        have hb7 := in_below hb5 b57
        have B7 : Below w.heap.size w w7 := B5.trans (b57.mono (by omega))
        clear own6 own7 own7' hb5 b6 b7 B5 b57
        go_wp2_with fail
        refine (zpk_any p7 12 c7 (l ++ spk) w7 hl7 hc7 (by omega) hi7).mono ?_
        rintro e w8 ⟨rfl, b8⟩
        have hb8 := in_below hb7 b8
        have z8 := b8.size
        have B8 : Below w.heap.size w w8 := B7.trans (b8.mono (by omega))
        rw [pk_spk]
        clear hi7 hb7 B7 b8
        go_wp2_with fail
        refine (ab_any none 0 0 (nums l) w8 (by rw [nums_len, hl]) hn hb8).mono ?_
        rintro e w9 ⟨v9, rfl, own9, b9⟩
        rw [nums_bv] at own9
        have z9 := b9.size
        go_wp2_with fail
        refine (as_any w8.heap.size v9 0 _ ⟨#[32, 80, 82, 73, 86, 65, 84, 69, 32, 75, 69, 89, 32, 66, 76, 79, 67, 75]⟩ w9 (by omega) (by decide) z9 own9).mono ?_
        rintro e w10 ⟨v10, rfl, own10, b10⟩
        have own10' : w10.ownsRow w8.heap.size 5 1 v10 18 ((l ++ (spk ++ blk)).map bv) := by rw [List.map_append]; exact own10
        obtain ⟨p10, c10, rfl, hl10, hc10, hi10⟩ := owned_in own10'
        have b810 := b9.trans b10
        have z10 := b810.size
        have B10 : Below w.heap.size w w10 := B8.trans (b810.mono (by omega))
        clear own9 own10 own10' hb8 b9 b10 B8 b810
        go_wp2_with fail
        refine (zpk_any p10 18 c10 (l ++ (spk ++ blk)) w10 hl10 hc10 (by omega) hi10).mono ?_
        rintro e w11 ⟨rfl, b11⟩
        have B11 : Below w.heap.size w w11 := B10.trans (b11.mono (by omega))
        rw [pk_spk_blk]
        clear hi10 B10 b11
        go_wp2
        go_ret
        exact ⟨rfl, B11⟩
    · have hp' : pk l = false := by simpa using hp
      rw [hp', Bool.false_and]
      go_wp2_with fail

      refine (ab_any none 0 0 (nums l) w4 (by rw [nums_len, hl]) hn hb4).mono ?_
      rintro e w6 ⟨v6, rfl, own6, b6⟩
      rw [nums_bv] at own6
      have z6 := b6.size
      go_wp2_with fail
      refine (as_any w4.heap.size v6 0 _ ⟨#[32, 80, 82, 73, 86, 65, 84, 69, 32, 75, 69, 89]⟩ w6 (by omega) (by decide) z6 own6).mono ?_
      rintro e w7 ⟨v7, rfl, own7, b7⟩
      have own7' : w7.ownsRow w4.heap.size 5 1 v7 12 ((l ++ spk).map bv) := by rw [List.map_append]; exact own7
      obtain ⟨p7, c7, rfl, hl7, hc7, hi7⟩ := owned_in own7'
      have b57 := b6.trans b7
      have z7 := b57.size
      have hb7 := in_below hb4 b57
      have B7 : Below w.heap.size w w7 := B4.trans (b57.mono (by omega))
      clear own6 own7 own7' hb4 b6 b7 B4 b57
      go_wp2_with fail
      refine (zpk_any p7 12 c7 (l ++ spk) w7 hl7 hc7 (by omega) hi7).mono ?_
      rintro e w8 ⟨rfl, b8⟩
      have hb8 := in_below hb7 b8
      have z8 := b8.size
      have B8 : Below w.heap.size w w8 := B7.trans (b8.mono (by omega))
      rw [pk_spk]
      clear hi7 hb7 B7 b8
      go_wp2_with fail
      refine (ab_any none 0 0 (nums l) w8 (by rw [nums_len, hl]) hn hb8).mono ?_
      rintro e w9 ⟨v9, rfl, own9, b9⟩
      rw [nums_bv] at own9
      have z9 := b9.size
      go_wp2_with fail
      refine (as_any w8.heap.size v9 0 _ ⟨#[32, 80, 82, 73, 86, 65, 84, 69, 32, 75, 69, 89, 32, 66, 76, 79, 67, 75]⟩ w9 (by omega) (by decide) z9 own9).mono ?_
      rintro e w10 ⟨v10, rfl, own10, b10⟩
      have own10' : w10.ownsRow w8.heap.size 5 1 v10 18 ((l ++ (spk ++ blk)).map bv) := by rw [List.map_append]; exact own10
      obtain ⟨p10, c10, rfl, hl10, hc10, hi10⟩ := owned_in own10'
      have b810 := b9.trans b10
      have z10 := b810.size
      have B10 : Below w.heap.size w w10 := B8.trans (b810.mono (by omega))
      clear own9 own10 own10' hb8 b9 b10 B8 b810
      go_wp2_with fail
      refine (zpk_any p10 18 c10 (l ++ (spk ++ blk)) w10 hl10 hc10 (by omega) hi10).mono ?_
      rintro e w11 ⟨rfl, b11⟩
      have B11 : Below w.heap.size w w11 := B10.trans (b11.mono (by omega))
      rw [pk_spk_blk]
      clear hi10 B10 b11
      go_wp2
      go_ret
      exact ⟨rfl, B11⟩
end Go.Proofs.Qxb6616246a
