import Derived.Test.Qxb6614822aFmtLah1
namespace Go.Proofs.Qxb6614822aFmt
open Go.RowKit

/-- the law's links as they lie in memory: two ids each -/
def LnkIn (w : World) (p : Option Addr) (nl : Nat) (vs : List (Int × Int)) : Prop :=
  0 < nl → ∃ b o, p = some ⟨b, o, none⟩ ∧ ∀ t, t < nl → w.cell? ⟨b, o + t * 2, none⟩ = some (.int .u64 (vs.getD t (0, 0)).1) ∧ w.cell? ⟨b, o + t * 2 + 1, none⟩ = some (.int .u64 (vs.getD t (0, 0)).2)
theorem LnkIn.grown {w w' : World} {p : Option Addr} {nl : Nat} {vs : List (Int × Int)} (h : LnkIn w p nl vs) (hg : w.grownBy w' none) : LnkIn w' p nl vs := by
  intro h0
  obtain ⟨b, o, rfl, hc⟩ := h h0
  exact ⟨b, o, rfl, fun t ht => ⟨hg.cell (hc t ht).1 (by simp), hg.cell (hc t ht).2 (by simp)⟩⟩

/-- the ends that linkEnds lays: link t's at 2t and 2t + 1 -/
def endF (ls : List (Nat × Nat)) : Nat → Int := fun i => if i % 2 = 0 then ((ls.getD (i / 2) (0, 0)).1 : Int) else ((ls.getD (i / 2) (0, 0)).2 : Int)

/-- the places of the links' ends -/
structure Ends (ls : List (Nat × Nat)) (m n : Nat) (xs : List Int) (vs : List (Int × Int)) : Prop where
  len : ls.length = m
  bd : ∀ t, t < m → (ls.getD t (0, 0)).1 < n ∧ (ls.getD t (0, 0)).2 < n ∧ (ls.getD t (0, 0)).1 ≠ (ls.getD t (0, 0)).2
  at' : ∀ t, t < m → xs.getD (ls.getD t (0, 0)).1 0 = (vs.getD t (0, 0)).1 ∧ xs.getD (ls.getD t (0, 0)).2 0 = (vs.getD t (0, 0)).2
theorem Ends.zero (n : Nat) (xs : List Int) (vs : List (Int × Int)) : Ends [] 0 n xs vs := ⟨rfl, fun _ h => absurd h (Nat.not_lt_zero _), fun _ h => absurd h (Nat.not_lt_zero _)⟩
theorem snoc_old {α : Type} {ls : List α} {x d : α} {t : Nat} (h : t < ls.length) : (ls ++ [x]).getD t d = ls.getD t d := by simp [List.getD, List.getElem?_append_left h]
theorem snoc_new {α : Type} {ls : List α} {x d : α} {t : Nat} (h : t = ls.length) : (ls ++ [x]).getD t d = x := by subst h; simp [List.getD]
theorem Ends.step {ls : List (Nat × Nat)} {m n a b : Nat} {xs : List Int} {vs : List (Int × Int)} (h : Ends ls m n xs vs) (ha : a < n) (hb : b < n) (hab : a ≠ b) (e1 : xs.getD a 0 = (vs.getD m (0, 0)).1) (e2 : xs.getD b 0 = (vs.getD m (0, 0)).2) : Ends (ls ++ [(a, b)]) (m + 1) n xs vs := by
  have hl := h.len
  refine ⟨by simp [hl], fun t ht => ?_, fun t ht => ?_⟩
  · by_cases e : t < m
    · rw [snoc_old (by omega)]; exact h.bd t e
    · rw [snoc_new (by omega)]; exact ⟨ha, hb, hab⟩
  · by_cases e : t < m
    · rw [snoc_old (by omega)]; exact h.at' t e
    · obtain rfl : t = m := by omega
      rw [snoc_new (by omega)]; exact ⟨e1, e2⟩

/-- block g holds f's first m -/
def Row3 (w : World) (g : Nat) (f : Nat → Int) (m M : Nat) : Prop := ∃ cs : Array Value, Blk w g cs 3 ∧ cs.size = M ∧ ∀ i, i < m → cs[i]? = some (.int .i64 (f i))
theorem Row3.cell {w : World} {g m M : Nat} {f : Nat → Int} (h : Row3 w g f m M) {i : Nat} (hi : i < m) : w.cell? ⟨g, i, none⟩ = some (.int .i64 (f i)) := by
  obtain ⟨cs, hb, _, hc⟩ := h
  rw [hb.cell i]; exact hc i hi
theorem Row3.any {w : World} {g m M : Nat} {f : Nat → Int} (h : Row3 w g f m M) {i : Nat} (hi : i < M) : ∃ v, w.cell? ⟨g, i, none⟩ = some v := by
  obtain ⟨cs, hb, hs, hc⟩ := h
  rw [hb.cell i]; exact ⟨_, Array.getElem?_eq_getElem (by omega)⟩
theorem Row3.frozen {w : World} {g m M : Nat} {f : Nat → Int} (h : Row3 w g f m M) (i : Nat) : w.frozen? ⟨g, i, none⟩ = false := by
  obtain ⟨cs, hb, _, _⟩ := h
  exact hb.frozen i
theorem Row3.lt {w : World} {g m M : Nat} {f : Nat → Int} (h : Row3 w g f m M) : g < w.heap.size := by
  obtain ⟨cs, hb, _, _⟩ := h
  exact hb.lt
theorem Row3.grown {w w' : World} {g m M : Nat} {f : Nat → Int} {row : Option Nat} (h : Row3 w g f m M) (hg : w.grownBy w' row) (hne : row ≠ some g) : Row3 w' g f m M := by
  obtain ⟨cs, hb, h1, h2⟩ := h
  exact ⟨cs, hb.grown hg hne, h1, h2⟩
theorem Row3.push {w : World} {g m M : Nat} {f : Nat → Int} (h : Row3 w g f m M) (hm : m < M) {v : Int} (hv : v = f m) : Row3 (w.setCell ⟨g, m, none⟩ (.int .i64 v)) g f (m + 1) M := by
  obtain ⟨cs, hb, h1, h2⟩ := h
  refine ⟨_, hb.set m _, by simpa using h1, fun j hj => ?_⟩
  rw [Array.getElem?_setIfInBounds]
  by_cases e : m = j
  · subst e; rw [if_pos rfl, if_pos (by omega), hv]
  · rw [if_neg e]; exact h2 j (by omega)
theorem Row3.congr {w : World} {g m M : Nat} {f f' : Nat → Int} (h : Row3 w g f m M) (e : ∀ i, i < m → f i = f' i) : Row3 w g f' m M := by
  obtain ⟨cs, hb, h1, h2⟩ := h
  exact ⟨cs, hb, h1, fun i hi => by rw [← e i hi]; exact h2 i hi⟩

theorem endF_old {ls : List (Nat × Nat)} {x : Nat × Nat} {i : Nat} (h : i < 2 * ls.length) : endF (ls ++ [x]) i = endF ls i := by
  unfold endF; rw [snoc_old (by omega)]
theorem endF_even {ls : List (Nat × Nat)} {x : Nat × Nat} {k : Nat} (h : ls.length = k) : endF (ls ++ [x]) (2 * k) = x.1 := by
  unfold endF; rw [if_pos (by omega), snoc_new (by omega)]
theorem endF_odd {ls : List (Nat × Nat)} {x : Nat × Nat} {k : Nat} (h : ls.length = k) : endF (ls ++ [x]) (2 * k + 1) = x.2 := by
  unfold endF; rw [if_neg (by omega), snoc_new (by omega)]

set_option maxRecDepth 20000 in
set_option maxHeartbeats 1000000 in
theorem ends_any (p pL : Option Addr) (n c nl cl : Nat) (xs : List Int) (vs : List (Int × Int)) (w : World) (hn : n ≤ 1000000) (hnl : nl ≤ 10000) (hx : IntsIn .u64 w p n xs) (hL : LnkIn w pL nl vs) :
    Calls Tryf.prog 14 #[.slice p n c, .slice pL nl cl] w fun e w' => (e = .returned (.tuple #[.slice none 0 0, .bool false]) ∨ ∃ be ls, e = .returned (.tuple #[.slice (some ⟨be, 0, none⟩) (2 * nl) (2 * nl), .bool true]) ∧ w.heap.size ≤ be ∧ Row3 w' be (endF ls) (2 * nl) (2 * nl) ∧ Ends ls nl n xs vs) ∧ w.grownBy w' none := by
  have hmk := mk38 (2 * nl) (by omega) w
  rw [show ((2 * nl : Nat) : Int) = 2 * (nl : Int) by omega] at hmk
  have HX : Hid (IntsIn .u64 w p n xs) := hx
  have HL : Hid (LnkIn w pL nl vs) := hL
  clear hx hL
  go_enter Tryf.func14, Tryf.ntmps14
  go_wp2_with fail
  have hg0 : w.grownBy (w.alloc (.cells (izA (2 * nl)) 3)) none := World.grownBy_alloc _ _ _
  have hr0 : Row3 (w.alloc (.cells (izA (2 * nl)) 3)) w.heap.size (endF []) 0 (2 * nl) := ⟨_, heap_alloc_new w _, by simp [izA, madeCells], fun i hi => absurd hi (Nat.not_lt_zero _)⟩
  generalize hbe : w.heap.size = be at hr0 ⊢
  have hbe2 : w.heap.size ≤ be := by omega
  generalize (w.alloc (.cells (izA (2 * nl)) 3)) = w1 at hg0 hr0 ⊢
  clear hmk
  go_loopg [7] nl (fun t v wr => ∃ (k : Nat) (ls : List (Nat × Nat)), v = .int .i64 k ∧ k + t = nl ∧ w.grownBy wr none ∧ Row3 wr be (endF ls) (2 * k) (2 * nl) ∧ Ends ls k n xs vs)
  case atStart => exact ⟨0, [], rfl, by omega, hg0, hr0, Ends.zero _ _ _⟩
  case round =>
    clear hg0 hr0
    obtain ⟨k, ls, rfl, hk, hg, hR, hE⟩ := hrel
    by_cases hlt : k < nl
    · obtain ⟨lb, lo, rfl, hlc⟩ := HL.out (by omega)
      obtain ⟨k0, k1⟩ := hlc k hlt
      obtain ⟨x, y, hxy⟩ : ∃ x y, vs.getD k (0, 0) = (x, y) := ⟨_, _, rfl⟩
      rw [hxy] at k0 k1
      simp only at k0 k1
      have c0 := hg.cell k0 (by simp)
      have c1 := hg.cell k1 (by simp)
      have HXY : Hid (vs.getD k (0, 0) = (x, y)) := hxy
      have HE : Hid (Ends ls k n xs vs) := hE
      have HG : Hid (w.grownBy wr none) := hg
      have HR : Hid (Row3 wr be (endF ls) (2 * k) (2 * nl)) := hR
      have hIx : IntsIn .u64 wr p n xs := HX.out.grown hg
      have hA := id_any p n c x xs wr hn hIx
      have hB := id_any p n c y xs wr hn hIx
      obtain ⟨y0, hy0⟩ := hR.any (i := 2 * k) (by omega)
      obtain ⟨y1, hy1⟩ := hR.any (i := 2 * k + 1) (by omega)
      have f0 := hR.frozen (2 * k)
      have f1 := hR.frozen (2 * k + 1)
      clear k0 k1 hxy hlc hE hg hR hIx
      go_wp2_with fail
      refine hA.mono ?_
      rintro e w2 ⟨hr, hw⟩
      have hw' := hw.symm
      subst hw'
      rcases hr with rfl | ⟨a, ha, hae, rfl⟩
      · go_wp2_with fail
        refine hB.mono ?_
        rintro e w3 ⟨hr, hw⟩
        have hw' := hw.symm
        subst hw'
        rcases hr with rfl | ⟨b, hb, hbe, rfl⟩
        · go_wp2_with fail
          go_ret2
          exact ⟨.inl rfl, HG.out⟩
        · go_wp2_with fail
          go_ret2
          exact ⟨.inl rfl, HG.out⟩
      · have HAe : Hid (xs.getD a 0 = x) := hae
        clear hae
        go_wp2_with fail
        refine hB.mono ?_
        rintro e w3 ⟨hr, hw⟩
        have hw' := hw.symm
        subst hw'
        rcases hr with rfl | ⟨b, hb, hbe, rfl⟩
        · go_wp2_with fail
          go_ret2
          exact ⟨.inl rfl, HG.out⟩
        · have HBe : Hid (xs.getD b 0 = y) := hbe
          clear hbe
          by_cases hab : a = b
          · subst hab
            go_wp2_with fail
            go_ret2
            exact ⟨.inl rfl, HG.out⟩
          · have hab' : ((a : Int) == (b : Int)) = false := by simp; omega
            go_wp2_with fail
            go_roundg (gk - 1)
            case measure => omega
            case rel =>
              have hl := HE.out.len
              refine ⟨k + 1, ls ++ [(a, b)], by go_num, by omega, ?_, ?_, HE.out.step ha hb hab (by rw [HXY.out]; exact HAe.out) (by rw [HXY.out]; exact HBe.out)⟩
              · exact grown_then (grown_then HG.out (grown_set _ _ _) (fun j e => by cases e; exact .inl hbe2)) (grown_set _ _ _) (fun j e => by cases e; exact .inl hbe2)
              · have r1 := HR.out.congr (f' := endF (ls ++ [(a, b)])) fun i hi => (endF_old (by omega)).symm
                exact (r1.push (by omega) (v := a) (by rw [endF_even hl])).push (by omega) (v := b) (by rw [endF_odd hl])
    · obtain rfl : nl = k := by omega
      go_wp2_with fail
      go_ret2
      exact ⟨.inr ⟨be, ls, rfl, hbe2, hR, hE⟩, hg⟩
end Go.Proofs.Qxb6614822aFmt
