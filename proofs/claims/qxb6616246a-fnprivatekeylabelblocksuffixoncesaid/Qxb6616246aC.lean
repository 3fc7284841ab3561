import Derived.Test.Qxb6616246aB
namespace Go.Proofs.Qxb6616246a
open Go.RowKit

theorem ret_bool' {a b : Bool} (h : a = b) : Ending.returned (.bool a) = .returned (.bool b) := by rw [h]

def upto (xs ys : List Int) (k : Nat) : Prop := xs.take k = ys.take k

theorem upto_step {xs ys : List Int} {k : Nat} (h1 : k < xs.length) (h2 : k < ys.length) (h : upto xs ys k) (he : xs.getD k 0 = ys.getD k 0) : upto xs ys (k + 1) := by
  unfold upto at *
  rw [take_snocI xs k h1, take_snocI ys k h2, h, he]

theorem upto_end {xs ys : List Int} {k : Nat} (h1 : xs.length ≤ k) (h2 : ys.length ≤ k) (h : upto xs ys k) : xs = ys := by
  unfold upto at h
  rwa [List.take_of_length_le h1, List.take_of_length_le h2] at h

theorem upto_part {xs ys : List Int} {k : Nat} (he : xs.getD k 0 ≠ ys.getD k 0) : xs ≠ ys := fun h => he (by rw [h])

theorem nums_get (s : ByteArray) (k : Nat) (h : k < s.size) : (nums s.data.toList).getD k 0 = (s[k].toNat : Int) := by
  have : k < s.data.toList.length := by simpa using h
  simp only [nums, List.getD, List.getElem?_map, List.getElem?_eq_getElem this, Option.map_some, Option.getD_some]
  rfl

set_option maxRecDepth 20000 in
set_option maxHeartbeats 1000000 in
theorem eq_any (b o n c : Nat) (xs : List Int) (s : ByteArray) (w : World) (hx : xs.length = n) (hs : s.size = n) (hn : n ≤ 2000000)
    (hc : ∀ i, i < n → w.cell? ⟨b, o + i, none⟩ = some (.int .u8 (xs.getD i 0))) :
    Calls Try.prog 26 #[.slice (some ⟨b, o, none⟩) n c, .string s] w fun e w' => e = .returned (.bool (decide (xs = nums s.data.toList))) ∧ ∃ q, w' = w.drewN q := by
  go_enter Try.func26, Try.ntmps26
  go_wp2
  go_loopw [5] (fun i wr => ∃ k q : Nat, k ≤ n ∧ i = .int .i64 k ∧ upto xs (nums s.data.toList) k ∧ wr = w.drewN q) (fun i _ => n - (intOf i).toNat)
  case atStart => exact ⟨0, 0, Nat.zero_le _, rfl, rfl, rfl⟩
  case round =>
    obtain ⟨k, q, hk, rfl, hu, rfl⟩ := hrel
    by_cases hlt : k < n
    · have hck := hc k hlt
      have hks : k < s.size := by omega
      have hkx : k < xs.length := by omega
      clear hc
      go_wp2
      go_region
      go_wp2
      · go_ret
        refine ⟨ret_bool' ?_, q + 1, rfl⟩
        have h9 : (xs[k] != (s[k].toNat : Int)) = true := by assumption
        rw [bne_iff_ne] at h9
        have hne : ¬ xs.getD k 0 = (s[k].toNat : Int) := by simpa [hkx] using h9
        rw [eq_comm, decide_eq_false_iff_not]
        exact upto_part (k := k) (by rw [nums_get s k hks]; exact hne)
      · go_roundw
        case rel =>
          refine ⟨k + 1, q + 1, by omega, by go_num, upto_step hkx (by simp [nums, hs]; omega) hu ?_, rfl⟩
          rw [nums_get s k hks]
          have h9 : (xs[k] != (s[k].toNat : Int)) = false := by assumption
          rw [bne_eq_false_iff_eq] at h9
          simpa [hkx] using h9
        case measure => simp [intOf]; omega
    · obtain rfl : k = n := by omega
      go_wp2
      go_ret
      refine ⟨ret_bool' ?_, q, rfl⟩
      rw [eq_comm, decide_eq_true_iff]
      exact upto_end (k := k) (by omega) (by simp [nums]; omega) hu

theorem suffix_iff (l : List UInt8) : Lib.hasSuffix l blk = decide (nums (l.drop (l.length - 6)) = nums blk) := by
  rw [Bool.eq_iff_iff, decide_eq_true_iff]
  unfold Lib.hasSuffix
  rw [List.isSuffixOf_iff_suffix, List.suffix_iff_eq_drop]
  constructor
  · intro e; rw [show l.length - 6 = l.length - blk.length from rfl, ← e]
  · intro e
    have := congrArg Lib.bytesOf e
    rw [bytesOf_nums, bytesOf_nums] at this
    exact this.symm

theorem suffix_short (l : List UInt8) (h : l.length < 6) : Lib.hasSuffix l blk = false := by
  rw [← Bool.not_eq_true]
  intro e
  have := hasSuffix_le e
  simp [blk] at this; omega

set_option maxRecDepth 20000 in
set_option maxHeartbeats 1000000 in
theorem hs_any (p : Option Addr) (n c : Nat) (l : List UInt8) (w : World) (hl : l.length = n) (hnc : n ≤ c) (hc9 : c ≤ 9223372036854775807) (hn : n ≤ 2000000) (hb : Lib.BytesIn w p n (nums l)) :
    Calls Try.prog 22 #[.slice p n c, .string ⟨#[32, 66, 76, 79, 67, 75]⟩] w fun e w' => e = .returned (.bool (Lib.hasSuffix l blk)) ∧ ∃ q, w' = w.drewN q := by
  by_cases h6 : 6 ≤ n
  · obtain ⟨b, o, rfl, hc⟩ := hb.at (by omega)
    have h := eq_any b (o + (n - 6)) 6 (c - (n - 6)) (nums (l.drop (n - 6))) ⟨#[32, 66, 76, 79, 67, 75]⟩ w (by rw [nums_len, List.length_drop]; omega) rfl (by omega)
      (fun i hi => by
        have := hc (n - 6 + i) (by omega)
        rw [Nat.add_assoc, this]
        simp [nums, List.getD])
    rw [suffix_iff l, hl]
    rw [show nums ([32, 66, 76, 79, 67, 75] : List UInt8) = nums blk from rfl] at h
    generalize decide (nums (l.drop (n - 6)) = nums blk) = r at h ⊢
    have h' : Calls Try.prog 26 #[.slice (some ⟨b, o + (n - 6), none⟩) (n - (n - 6)) (c - (n - 6)), .string ⟨#[32, 66, 76, 79, 67, 75]⟩] w fun e w' => e = .returned (.bool r) ∧ ∃ q, w' = w.drewN q := by
      rw [show n - (n - 6) = 6 by omega]; exact h
    clear hb hc h
    go_enter Try.func22, Try.ntmps22
    go_wp2_with (go_at_call 26; refine h'.mono ?_; rintro e w' ⟨rfl, q, rfl⟩)
    go_ret
    exact ⟨rfl, q, rfl⟩
  · rw [suffix_short l (by omega)]
    go_enter Try.func22, Try.ntmps22
    go_wp2
    go_ret
    exact ⟨rfl, 0, rfl⟩
end Go.Proofs.Qxb6616246a
