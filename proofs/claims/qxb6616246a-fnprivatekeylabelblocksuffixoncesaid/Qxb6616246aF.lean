import Derived.Test.Qxb6616246aE
namespace Go.Proofs.Qxb6616246a
open Go.RowKit

theorem row_in {w : World} {g : Nat} {l : List UInt8} {cur : List Value} (hl : cur = l.map bv) (h : w.heap[g]? = some (.cells cur.toArray 5 (0, 0))) :
    Lib.BytesIn w (some ⟨g, 0, none⟩) l.length (nums l) := by
  subst hl
  refine fun h0 => ⟨g, 0, rfl, fun i hi => ?_⟩
  simp only [World.cell?, h, Nat.zero_add]
  simp [nums, bv, List.getD, hi]

set_option maxRecDepth 20000 in
set_option maxHeartbeats 2000000 in
theorem law_some (a : Addr) (n c : Nat) (l : List UInt8) (w : World) (hl : l.length = n) (hn : n ≤ 1048576) (hc : ∀ i, i < n → w.cell? (a.add i) = some (.int .u8 ((nums l).getD i 0))) :
    Calls Try.prog 5 #[.slice (some a) n c] w fun e w' => e = .returned (.bool true) ∧ Below w.heap.size w w' := by
  obtain ⟨i0, hi, hz0, hz1, hz2⟩ := info_parts info5
  have hNC : n ≤ n := Nat.le_refl _
  have hsz : (Try.prog.info? 5).map (·.size) = some 1 := by rw [hi]; simp [hz1]
  have hsrc : ∀ (o : Obj) j v, (l.map bv)[j]? = some v → (w.alloc o).cell? (a.add j) = some v := by
    intro o j v hv
    have hj : j < l.length := by
      have := (List.getElem?_eq_some_iff.1 hv).1; simpa using this
    have e := hc j (by omega)
    have hlt : (a.add j).block < w.heap.size := World.block_lt_of_cell? w _ e
    have hbel : Below w.heap.size w (w.alloc o) := (Below.refl _ _).alloc (Nat.le_refl _) _
    rw [hbel.cell hlt, e]
    simp only [nums, List.getD, List.getElem?_map, List.getElem?_eq_getElem hj, Option.map_some, Option.getD_some] at hv ⊢
    simpa [bv] using hv
  have hmade : (madeCells #[Value.int .u8 0] n).toList.length = n := by simp [madeCells]
  clear hc
  go_enter Try.func5, Try.ntmps5
  go_wp2_with (first
    | (go_at_call 18; go_in)
    | (at_make; refine wpList_make_row _ rfl _ _ 35 rfl 5 i0 (.int .u8 0) Try.underlying35 hi hz0 hz1 rfl .i64 .i64 n rfl rfl (by rw [hz2]; omega) (by omega) ?_)
    | (refine wpList_copy_splice rfl (.tmp 19) (.tmp 20) 35 35 rfl 5 Try.underlying35 hsz _ _ n n n c rfl rfl w.heap.size 0 (madeCells #[Value.int .u8 0] n).toList 5 (by rw [Array.toArray_toList]; exact heap_alloc_new w _) (l.map bv) (by simp [hl]) (fun _ => ⟨rfl, _, rfl, hsrc _⟩) (by rw [hmade]; simp [hl]) (by simp [bv, Value.oneCell']) w.heap.size w ((Below.refl _ _).alloc (Nat.le_refl _) _) (Nat.le_refl _) ?_; intro w0 HG b0)
    | fail)
  · have hsp : splice (madeCells #[Value.int .u8 0] n).toList 0 (l.map bv) = l.map bv := by
      have : (madeCells #[Value.int .u8 0] n).toList.drop (0 + (l.map bv).length) = [] := List.drop_of_length_le (by rw [hmade]; simp [hl])
      unfold splice; rw [this]; simp
    have hb0 : Lib.BytesIn w0 (some ⟨w.heap.size, 0, none⟩) n (nums l) := by
      have := row_in hsp HG.out
      rwa [hl] at this
    clear HG hsp hmade hsrc

    -- the plain call
    refine (zpk_any (some ⟨w.heap.size, 0, none⟩) n n l w0 hl hNC (by omega) hb0).mono ?_
    rintro e w1 ⟨rfl, b1⟩
    have hb1 := in_below hb0 b1
    have z1 := b1.size
    go_wp2_with fail
    refine (ab_any (some ⟨w.heap.size, 0, none⟩) n n (nums l) w1 (by rw [nums_len, hl]) hn hb1).mono ?_
    rintro e w2 ⟨v2, rfl, own2, b2⟩
    rw [nums_bv] at own2
    have z2 := b2.size
    go_wp2_with fail
    refine (as_any w1.heap.size v2 n _ ⟨#[32, 66, 76, 79, 67, 75]⟩ w2 (by omega) (by decide) z2 own2).mono ?_
    rintro e w3 ⟨v3, rfl, own3, b3⟩
    have own3' : w3.ownsRow w1.heap.size 5 1 v3 (n + 6) ((l ++ blk).map bv) := by rw [List.map_append]; exact own3
    obtain ⟨p3, c3, rfl, hl3, hc3, hi3⟩ := owned_in own3'
    have b13 := b2.trans b3
    have z3 := b13.size
    have hb3 := in_below hb1 b13
    clear own2 own3 own3' hb1 b2 b3
    go_wp2_with fail
    refine (zpk_any p3 (n + 6) c3 (l ++ blk) w3 hl3 hc3 (by omega) hi3).mono ?_
    rintro e w4 ⟨rfl, b4⟩
    have hb4 := in_below hb3 b4
    have z4 := b4.size
    rw [pk_blk]
    clear hi3 hb3
    have B4 : Below w0.heap.size w0 w4 := b1.trans ((b13.mono z1).trans (b4.mono (by omega)))
    clear b1 b13 b4
    by_cases hp : pk l = true
    · rw [hp, Bool.true_and]
      have hcs := hs_any (some ⟨w.heap.size, 0, none⟩) n n l w4 hl hNC (by omega) (by omega) hb4
      generalize Lib.hasSuffix l blk = r at hcs ⊢
      cases r
      all_goals
        go_wp2_with fail
        refine hcs.mono ?_
        rintro e w5' ⟨rfl, q, rfl⟩
        have b5 : Below w4.heap.size w4 (w4.drewN q) := below_drewN' (Below.refl _ _) q
        generalize w4.drewN q = w5 at b5 ⊢
        go_wp2_with fail

        have hb5 := in_below hb4 b5
        have z5 := b5.size
        have B5 : Below w0.heap.size w0 w5 := B4.trans (b5.mono (by omega))
        clear hb4 B4 b5
        refine (ab_any (some ⟨w.heap.size, 0, none⟩) n n (nums l) w5 (by rw [nums_len, hl]) hn hb5).mono ?_
        rintro e w6 ⟨v6, rfl, own6, b6⟩
        rw [nums_bv] at own6
        have z6 := b6.size
        go_wp2_with fail
        refine (as_any w5.heap.size v6 n _ ⟨#[32, 80, 82, 73, 86, 65, 84, 69, 32, 75, 69, 89]⟩ w6 (by omega) (by decide) z6 own6).mono ?_
        rintro e w7 ⟨v7, rfl, own7, b7⟩
        have own7' : w7.ownsRow w5.heap.size 5 1 v7 (n + 12) ((l ++ spk).map bv) := by rw [List.map_append]; exact own7
        obtain ⟨p7, c7, rfl, hl7, hc7, hi7⟩ := owned_in own7'
        have b57 := b6.trans b7
        have z7 := b57.size
        have hb7 := in_below hb5 b57
        have B7 : Below w0.heap.size w0 w7 := B5.trans (b57.mono (by omega))
        clear own6 own7 own7' hb5 b6 b7 B5 b57
        go_wp2_with fail
        refine (zpk_any p7 (n + 12) c7 (l ++ spk) w7 hl7 hc7 (by omega) hi7).mono ?_
        rintro e w8 ⟨rfl, b8⟩
        have hb8 := in_below hb7 b8
        have z8 := b8.size
        have B8 : Below w0.heap.size w0 w8 := B7.trans (b8.mono (by omega))
        rw [pk_spk]
        clear hi7 hb7 B7 b8
        go_wp2_with fail
        refine (ab_any (some ⟨w.heap.size, 0, none⟩) n n (nums l) w8 (by rw [nums_len, hl]) hn hb8).mono ?_
        rintro e w9 ⟨v9, rfl, own9, b9⟩
        rw [nums_bv] at own9
        have z9 := b9.size
        go_wp2_with fail
        refine (as_any w8.heap.size v9 n _ ⟨#[32, 80, 82, 73, 86, 65, 84, 69, 32, 75, 69, 89, 32, 66, 76, 79, 67, 75]⟩ w9 (by omega) (by decide) z9 own9).mono ?_
        rintro e w10 ⟨v10, rfl, own10, b10⟩
        have own10' : w10.ownsRow w8.heap.size 5 1 v10 (n + 18) ((l ++ (spk ++ blk)).map bv) := by rw [List.map_append]; exact own10
        obtain ⟨p10, c10, rfl, hl10, hc10, hi10⟩ := owned_in own10'
        have b810 := b9.trans b10
        have z10 := b810.size
        have B10 : Below w0.heap.size w0 w10 := B8.trans (b810.mono (by omega))
        clear own9 own10 own10' hb8 b9 b10 B8 b810
        go_wp2_with fail
        refine (zpk_any p10 (n + 18) c10 (l ++ (spk ++ blk)) w10 hl10 hc10 (by omega) hi10).mono ?_
        rintro e w11 ⟨rfl, b11⟩
        have B11 : Below w0.heap.size w0 w11 := B10.trans (b11.mono (by omega))
        rw [pk_spk_blk]
        clear hi10 B10 b11
        go_wp2
        go_ret
        exact ⟨rfl, b0.trans (B11.mono b0.size)⟩
    · have hp' : pk l = false := by simpa using hp
      rw [hp', Bool.false_and]
      go_wp2_with fail

      refine (ab_any (some ⟨w.heap.size, 0, none⟩) n n (nums l) w4 (by rw [nums_len, hl]) hn hb4).mono ?_
      rintro e w6 ⟨v6, rfl, own6, b6⟩
      rw [nums_bv] at own6
      have z6 := b6.size
      go_wp2_with fail
      refine (as_any w4.heap.size v6 n _ ⟨#[32, 80, 82, 73, 86, 65, 84, 69, 32, 75, 69, 89]⟩ w6 (by omega) (by decide) z6 own6).mono ?_
      rintro e w7 ⟨v7, rfl, own7, b7⟩
      have own7' : w7.ownsRow w4.heap.size 5 1 v7 (n + 12) ((l ++ spk).map bv) := by rw [List.map_append]; exact own7
      obtain ⟨p7, c7, rfl, hl7, hc7, hi7⟩ := owned_in own7'
      have b57 := b6.trans b7
      have z7 := b57.size
      have hb7 := in_below hb4 b57
      have B7 : Below w0.heap.size w0 w7 := B4.trans (b57.mono (by omega))
      clear own6 own7 own7' hb4 b6 b7 B4 b57
      go_wp2_with fail
      refine (zpk_any p7 (n + 12) c7 (l ++ spk) w7 hl7 hc7 (by omega) hi7).mono ?_
      rintro e w8 ⟨rfl, b8⟩
      have hb8 := in_below hb7 b8
      have z8 := b8.size
      have B8 : Below w0.heap.size w0 w8 := B7.trans (b8.mono (by omega))
      rw [pk_spk]
      clear hi7 hb7 B7 b8
      go_wp2_with fail
      refine (ab_any (some ⟨w.heap.size, 0, none⟩) n n (nums l) w8 (by rw [nums_len, hl]) hn hb8).mono ?_
      rintro e w9 ⟨v9, rfl, own9, b9⟩
      rw [nums_bv] at own9
      have z9 := b9.size
      go_wp2_with fail
      refine (as_any w8.heap.size v9 n _ ⟨#[32, 80, 82, 73, 86, 65, 84, 69, 32, 75, 69, 89, 32, 66, 76, 79, 67, 75]⟩ w9 (by omega) (by decide) z9 own9).mono ?_
      rintro e w10 ⟨v10, rfl, own10, b10⟩
      have own10' : w10.ownsRow w8.heap.size 5 1 v10 (n + 18) ((l ++ (spk ++ blk)).map bv) := by rw [List.map_append]; exact own10
      obtain ⟨p10, c10, rfl, hl10, hc10, hi10⟩ := owned_in own10'
      have b810 := b9.trans b10
      have z10 := b810.size
      have B10 : Below w0.heap.size w0 w10 := B8.trans (b810.mono (by omega))
      clear own9 own10 own10' hb8 b9 b10 B8 b810
      go_wp2_with fail
      refine (zpk_any p10 (n + 18) c10 (l ++ (spk ++ blk)) w10 hl10 hc10 (by omega) hi10).mono ?_
      rintro e w11 ⟨rfl, b11⟩
      have B11 : Below w0.heap.size w0 w11 := B10.trans (b11.mono (by omega))
      rw [pk_spk_blk]
      clear hi10 B10 b11
      go_wp2
      go_ret
      exact ⟨rfl, b0.trans (B11.mono b0.size)⟩

end Go.Proofs.Qxb6616246a
