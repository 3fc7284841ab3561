import Derived.Test.Qxb6616246aC
namespace Go.Proofs.Qxb6616246a
open Go.RowKit

theorem suf_app (l t : List UInt8) : Lib.hasSuffix (l ++ t) t = true := by
  unfold Lib.hasSuffix; rw [List.isSuffixOf_iff_suffix]; exact List.suffix_append _ _

theorem last_of_suf {l t : List UInt8} (h : Lib.hasSuffix l t = true) (ht : t ≠ []) : l.getLast? = t.getLast? := by
  unfold Lib.hasSuffix at h; rw [List.isSuffixOf_iff_suffix] at h
  obtain ⟨r, rfl⟩ := h
  rw [List.getLast?_append]
  cases e : t.getLast? with
  | none => exact absurd (List.getLast?_eq_none_iff.1 e) ht
  | some x => rfl

theorem not_suf {l t : List UInt8} (ht : t ≠ []) (h : l.getLast? ≠ t.getLast?) : Lib.hasSuffix l t = false := by
  rw [← Bool.not_eq_true]; intro e; exact h (last_of_suf e ht)

theorem trim_app (l : List UInt8) : Lib.trimSuffix (l ++ blk) blk = l := by
  unfold Lib.trimSuffix; rw [if_pos (suf_app l blk)]; simp

theorem pk_blk (l : List UInt8) : pk (l ++ blk) = (pk l && !Lib.hasSuffix l blk) := by
  unfold pk
  rw [trim_app]
  by_cases h : Lib.hasSuffix l blk = true
  · rw [h]
    have hl := last_of_suf h (by simp [blk])
    have e1 : (l == pky) = false := by
      rw [← Bool.not_eq_true, beq_iff_eq]; intro e; rw [e] at hl; exact absurd hl (by decide)
    have e2 : Lib.hasSuffix l spk = false := not_suf (by simp [spk]) (by rw [hl]; decide)
    unfold named; rw [e1, e2]; simp
  · have h' : Lib.hasSuffix l blk = false := by simpa using h
    unfold Lib.trimSuffix; rw [if_neg h, h']; simp

theorem pk_spk (l : List UInt8) : pk (l ++ spk) = true := by
  have h : Lib.hasSuffix (l ++ spk) blk = false := not_suf (by simp [blk]) (by rw [List.getLast?_append]; simp [spk, blk])
  unfold pk Lib.trimSuffix
  rw [h, if_neg (by decide)]
  unfold named; rw [suf_app]; simp

theorem pk_spk_blk (l : List UInt8) : pk (l ++ (spk ++ blk)) = true := by
  rw [← List.append_assoc]
  unfold pk; rw [trim_app]
  unfold named; rw [suf_app]; simp

theorem in_below {w w' : World} {p : Option Addr} {n : Nat} {xs : List Int} (h : Lib.BytesIn w p n xs) (hb : Below w.heap.size w w') : Lib.BytesIn w' p n xs := by
  intro h0
  obtain ⟨b, o, rfl, hc⟩ := h h0
  have hbB : b < w.heap.size := World.block_lt_of_cell? w _ (hc 0 h0)
  exact ⟨b, o, rfl, fun i hi => (hb.cell hbB).trans (hc i hi)⟩

theorem owned_in {w : World} {B n : Nat} {v : Value} {l : List UInt8} (h : w.ownsRow B 5 1 v n (l.map bv)) : ∃ p c, v = .slice p n c ∧ l.length = n ∧ n ≤ c ∧ Lib.BytesIn w p n (nums l) := by
  obtain ⟨h1, h2⟩ := h
  simp only [List.length_map, Nat.mul_one] at h1
  rcases h2 with ⟨rfl, rfl⟩ | ⟨g, cap, cur, rfl, hbg, hg, hnc, hcm, hcs, ht⟩
  · exact ⟨none, 0, rfl, h1, Nat.le_refl _, Lib.BytesIn.nil _ _ _⟩
  · refine ⟨_, cap, rfl, h1, hnc, fun h0 => ⟨g, 0, rfl, fun i hi => ?_⟩⟩
    have e : (cur.toList.take (n * 1))[i]? = (l.map bv)[i]? := by rw [ht]
    rw [List.getElem?_take, if_pos (by omega)] at e
    have hil : i < l.length := by omega
    rw [List.getElem?_map, List.getElem?_eq_getElem hil] at e
    simp only [World.cell?, hg, Nat.zero_add]
    simp only [nums, List.getD, List.getElem?_map, List.getElem?_eq_getElem hil, Option.map_some, Option.getD_some]
    simpa [bv] using e

theorem nums_bv (l : List UInt8) : (nums l).map (Value.int .u8) = l.map bv := by
  simp [nums, bv]
end Go.Proofs.Qxb6616246a
